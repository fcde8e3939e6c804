-- Written by a program of this session (wip/tools)
import Derived.Test.YtielnphmcaecdaaDoorQCSPAllx0
import Derived.Test.YtielnphmcaecdaaDoorQCSPAllx5
import Derived.Test.YtielnphmcaecdaaDoorQCSPAllx10
import Derived.Test.YtielnphmcaecdaaDoorQCSPAllx17
import Derived.Test.YtielnphmcaecdaaDoorQCSBits
import Derived.Test.YtielnphmcaecdaaDoorQCSExtVer
namespace Go.Proofs.YtielnphmcaecdaaDoor.PAll
open Go.RowKit Go.Proofs.YtielnphmcaecdaaDoorW.PrintWords Go.Proofs.YtielnphmcaecdaaDoorW.PrintLast Go.Proofs.YtielnphmcaecdaaDoorW.PrintMore
attribute [local go_sem] max2_int min2_int max_two min_two max_three min_three max_four min_four   -- for this text's walks alone
set_option linter.unusedVariables false
set_option linter.unusedSimpArgs false
mutual
def laws_FnConsistencySound.j0 : Nat → List (List Int) → Int → List (List Int) → List Int → Bool → Int → Int → Int → Int → Int → Int → Option (Bool)
  | 0, _, _, _, _, _, _, _, _, _, _, _ => none
  | k + 1, x1, x2, x3, x4, x28, x715000, x715001, x715002, x715003, x715004, x715005 => if x28 = true then (some true) else ((spec_Terms.f x715000 x715001 x715002 x715003 x715004 x715005).bind fun t717 => (if t717 = true then ((laws_logSmall.f k x1).bind fun t718 => (if t718 = true then ((laws_logSmall.f k x3).bind fun t719 => (if t719 = true then (if (x4.length : Int) > 100000 then (laws_FnConsistencySound.j1 k x1 x2 x3 x4 (IntKind.u64.wrap ((x1.length : Int))) true x715000 x715001 x715002 x715003 x715004 x715005) else (if x2 = 0 then (laws_FnConsistencySound.j1 k x1 x2 x3 x4 (IntKind.u64.wrap ((x1.length : Int))) true x715000 x715001 x715002 x715003 x715004 x715005) else (laws_FnConsistencySound.j1 k x1 x2 x3 x4 (IntKind.u64.wrap ((x1.length : Int))) (decide (x2 > (IntKind.u64.wrap ((x1.length : Int))))) x715000 x715001 x715002 x715003 x715004 x715005))) else (laws_FnConsistencySound.j1 k x1 x2 x3 x4 (IntKind.u64.wrap ((x1.length : Int))) true x715000 x715001 x715002 x715003 x715004 x715005))) else (laws_FnConsistencySound.j1 k x1 x2 x3 x4 (IntKind.u64.wrap ((x1.length : Int))) true x715000 x715001 x715002 x715003 x715004 x715005))) else (laws_FnConsistencySound.j1 k x1 x2 x3 x4 (IntKind.u64.wrap ((x1.length : Int))) true x715000 x715001 x715002 x715003 x715004 x715005)))
def laws_FnConsistencySound.j1 : Nat → List (List Int) → Int → List (List Int) → List Int → Int → Bool → Int → Int → Int → Int → Int → Int → Option (Bool)
  | 0, _, _, _, _, _, _, _, _, _, _, _, _ => none
  | k + 1, x1, x2, x3, x4, x11, x58, x715000, x715001, x715002, x715003, x715004, x715005 => if x58 = true then (some true) else ((impl_TreeRoot.f k x715000 x715001 x715002 x715003 x715004 x715005 x1 x11).bind fun bt720 => ((impl_VerifyConsistency.f k x715000 x715001 x715002 x715003 x715004 x715005 x2 x11 x3 x4 bt720.1).bind fun bt724 => (if bt720.2 = true then (if 0 ≤ x2 then (if x2 ≤ (x1.length : Int) then ((spec_Root.f k x715000 x715001 x715002 x715003 x715004 x715005 (x1.take (x2 : Int).toNat)).bind fun t732 => ((spec_SameText.f x4 t732).bind fun t735 => (if t735 = true then ((spec_Proof.f k x715000 x715001 x715002 x715003 x715004 x715005 x1 x2).bind fun t736 => ((spec_Same.f k x3 t736).bind fun t739 => (some ((bt724.1 == 0) == t739)))) else (some ((bt724.1 == 0) == false))))) else (none)) else (none)) else (none))))
end
def laws_FnConsistencySound.f (k : Nat) (a0_0 : Int) (a0_1 : Int) (a0_2 : Int) (a0_3 : Int) (a0_4 : Int) (a0_5 : Int) (l1 : List (List Int)) (a2 : Int) (l3 : List (List Int)) (l4 : List Int) : Option (Bool) := (laws_zzFits2.f k l1).bind fun t715 => (if t715 = true then ((laws_zzFits2.f k l3).bind fun t716 => (if t716 = true then (laws_FnConsistencySound.j0 k l1 a2 l3 l4 (decide ((l4.length : Int) > 2147483647)) a0_0 a0_1 a0_2 a0_3 a0_4 a0_5) else (laws_FnConsistencySound.j0 k l1 a2 l3 l4 true a0_0 a0_1 a0_2 a0_3 a0_4 a0_5))) else (laws_FnConsistencySound.j0 k l1 a2 l3 l4 true a0_0 a0_1 a0_2 a0_3 a0_4 a0_5))
theorem laws_FnConsistencySound.mono_l : ∀ k, (∀ y0 y1 y2 y3 y4 y5 y6 y7 y8 y9 y10, LeO (laws_FnConsistencySound.j0 k y0 y1 y2 y3 y4 y5 y6 y7 y8 y9 y10) (laws_FnConsistencySound.j0 (k + 1) y0 y1 y2 y3 y4 y5 y6 y7 y8 y9 y10)) ∧ (∀ y0 y1 y2 y3 y4 y5 y6 y7 y8 y9 y10 y11, LeO (laws_FnConsistencySound.j1 k y0 y1 y2 y3 y4 y5 y6 y7 y8 y9 y10 y11) (laws_FnConsistencySound.j1 (k + 1) y0 y1 y2 y3 y4 y5 y6 y7 y8 y9 y10 y11))
  | 0 => ⟨fun _ _ _ _ _ _ _ _ _ _ _ r h => by simp [laws_FnConsistencySound.j0] at h, fun _ _ _ _ _ _ _ _ _ _ _ _ r h => by simp [laws_FnConsistencySound.j1] at h⟩
  | k + 1 => by
    obtain ⟨ih0, ih1⟩ := laws_FnConsistencySound.mono_l k
    refine ⟨?_, ?_⟩
    · intro y0 y1 y2 y3 y4 y5 y6 y7 y8 y9 y10
      unfold laws_FnConsistencySound.j0
      repeat' first
      | (with_reducible exact ih0 _ _ _ _ _ _ _ _ _ _ _)
      | (with_reducible exact ih1 _ _ _ _ _ _ _ _ _ _ _ _)
      | (with_reducible exact impl_TreeRoot.mono _ _ _ _ _ _ _ _ _)
      | (with_reducible exact impl_VerifyConsistency.mono _ _ _ _ _ _ _ _ _ _ _ _)
      | (with_reducible exact laws_logSmall.mono _ _)
      | (with_reducible exact laws_zzFits2.mono _ _)
      | (with_reducible exact spec_Proof.mono _ _ _ _ _ _ _ _ _)
      | (with_reducible exact spec_Root.mono _ _ _ _ _ _ _ _)
      | (with_reducible exact spec_Same.mono _ _ _)
      | (with_reducible exact LeO.refl _)
      | (with_reducible exact LeO.none _)
      | (with_reducible refine LeO.ite ?_ ?_)
      | (with_reducible refine LeO.bind ?_ (fun _ => ?_))
      | exact ih0 _ _ _ _ _ _ _ _ _ _ _
      | exact ih1 _ _ _ _ _ _ _ _ _ _ _ _
      | exact impl_TreeRoot.mono _ _ _ _ _ _ _ _ _
      | exact impl_VerifyConsistency.mono _ _ _ _ _ _ _ _ _ _ _ _
      | exact laws_logSmall.mono _ _
      | exact laws_zzFits2.mono _ _
      | exact spec_Proof.mono _ _ _ _ _ _ _ _ _
      | exact spec_Root.mono _ _ _ _ _ _ _ _
      | exact spec_Same.mono _ _ _
      | exact LeO.none _
      | refine LeO.ite ?_ ?_
      | refine LeO.bind ?_ (fun _ => ?_)
    · intro y0 y1 y2 y3 y4 y5 y6 y7 y8 y9 y10 y11
      unfold laws_FnConsistencySound.j1
      repeat' first
      | (with_reducible exact ih0 _ _ _ _ _ _ _ _ _ _ _)
      | (with_reducible exact ih1 _ _ _ _ _ _ _ _ _ _ _ _)
      | (with_reducible exact impl_TreeRoot.mono _ _ _ _ _ _ _ _ _)
      | (with_reducible exact impl_VerifyConsistency.mono _ _ _ _ _ _ _ _ _ _ _ _)
      | (with_reducible exact laws_logSmall.mono _ _)
      | (with_reducible exact laws_zzFits2.mono _ _)
      | (with_reducible exact spec_Proof.mono _ _ _ _ _ _ _ _ _)
      | (with_reducible exact spec_Root.mono _ _ _ _ _ _ _ _)
      | (with_reducible exact spec_Same.mono _ _ _)
      | (with_reducible exact LeO.refl _)
      | (with_reducible exact LeO.none _)
      | (with_reducible refine LeO.ite ?_ ?_)
      | (with_reducible refine LeO.bind ?_ (fun _ => ?_))
      | exact ih0 _ _ _ _ _ _ _ _ _ _ _
      | exact ih1 _ _ _ _ _ _ _ _ _ _ _ _
      | exact impl_TreeRoot.mono _ _ _ _ _ _ _ _ _
      | exact impl_VerifyConsistency.mono _ _ _ _ _ _ _ _ _ _ _ _
      | exact laws_logSmall.mono _ _
      | exact laws_zzFits2.mono _ _
      | exact spec_Proof.mono _ _ _ _ _ _ _ _ _
      | exact spec_Root.mono _ _ _ _ _ _ _ _
      | exact spec_Same.mono _ _ _
      | exact LeO.none _
      | refine LeO.ite ?_ ?_
      | refine LeO.bind ?_ (fun _ => ?_)
theorem laws_FnConsistencySound.mono : ∀ a0 a1 a2 a3 a4 a5 a6 a7 a8 a9 k, LeO (laws_FnConsistencySound.f k a0 a1 a2 a3 a4 a5 a6 a7 a8 a9) (laws_FnConsistencySound.f (k + 1) a0 a1 a2 a3 a4 a5 a6 a7 a8 a9) := by
  intro a0 a1 a2 a3 a4 a5 a6 a7 a8 a9 k
  obtain ⟨ih0, ih1⟩ := laws_FnConsistencySound.mono_l k
  unfold laws_FnConsistencySound.f
  repeat' first
      | (with_reducible exact ih0 _ _ _ _ _ _ _ _ _ _ _)
      | (with_reducible exact ih1 _ _ _ _ _ _ _ _ _ _ _ _)
      | (with_reducible exact impl_TreeRoot.mono _ _ _ _ _ _ _ _ _)
      | (with_reducible exact impl_VerifyConsistency.mono _ _ _ _ _ _ _ _ _ _ _ _)
      | (with_reducible exact laws_logSmall.mono _ _)
      | (with_reducible exact laws_zzFits2.mono _ _)
      | (with_reducible exact spec_Proof.mono _ _ _ _ _ _ _ _ _)
      | (with_reducible exact spec_Root.mono _ _ _ _ _ _ _ _)
      | (with_reducible exact spec_Same.mono _ _ _)
      | (with_reducible exact LeO.refl _)
      | (with_reducible exact LeO.none _)
      | (with_reducible refine LeO.ite ?_ ?_)
      | (with_reducible refine LeO.bind ?_ (fun _ => ?_))
      | exact ih0 _ _ _ _ _ _ _ _ _ _ _
      | exact ih1 _ _ _ _ _ _ _ _ _ _ _ _
      | exact impl_TreeRoot.mono _ _ _ _ _ _ _ _ _
      | exact impl_VerifyConsistency.mono _ _ _ _ _ _ _ _ _ _ _ _
      | exact laws_logSmall.mono _ _
      | exact laws_zzFits2.mono _ _
      | exact spec_Proof.mono _ _ _ _ _ _ _ _ _
      | exact spec_Root.mono _ _ _ _ _ _ _ _
      | exact spec_Same.mono _ _ _
      | exact LeO.none _
      | refine LeO.ite ?_ ?_
      | refine LeO.bind ?_ (fun _ => ?_)
def laws_FnConsistencySound.T8 : Bool × List (List Nat × List Nat) := (true, [([], []), ([0], [0]), ([1], [1]), ([2, 1], [1, 2]), ([1], [1]), ([1], [1]), ([1], [1]), ([1], [1]), ([6, 7, 1], [1, 6, 7]), ([5, 8, 1, 1], [1, 5, 8]), ([4, 9, 9, 1], [1, 4, 9]), ([10, 10, 1], [1, 10]), ([11], [11]), ([11], [11]), ([11], [11]), ([11], [11]), ([13, 14, 15, 11, 11], [11, 13, 14, 15]), ([12, 16, 16, 11], [11, 12, 16]), ([11, 17, 1], [1, 11, 17]), ([3, 18, 1], [1, 3, 18]), ([1, 19], [1, 19]), ([20, 17, 0, 1, 2, 3, 4, 5, 6, 7, 8, 9, 10, 11, 12, 13, 14, 15, 16, 17, 18, 19, 20], [20])])
def laws_FnConsistencySound.B8 : List Nat := [0, 1, 3, 7, 3, 3, 3, 3, 195, 483, 1011, 2035, 4083, 4083, 4083, 4083, 61427, 131059, 262131, 524287, 1048575, 2097151]
theorem laws_FnConsistencySound.tab8 : rtab .any (opsOf Tryd.f8 8) = laws_FnConsistencySound.T8 := by kernel_rfl
theorem laws_FnConsistencySound.bits8 : waitsOk laws_FnConsistencySound.T8.2 laws_FnConsistencySound.B8 = true := by kernel_rfl
set_option maxHeartbeats 8000000 in
set_option maxRecDepth 100000 in
theorem laws_FnConsistencySound.calls (k : Nat) (a0_0 : Int) (a0_1 : Int) (a0_2 : Int) (a0_3 : Int) (a0_4 : Int) (a0_5 : Int) (A1 : Option Addr) (c1 : Nat) (l1 : List (List Int)) (a2 : Int) (A3 : Option Addr) (c3 : Nat) (l3 : List (List Int)) (A4 : Option Addr) (c4 : Nat) (l4 : List Int) (r : Bool) (w : World) (hG : Glob w) (hr1 : Kd.C (Kd.slice 5 (Kd.int .u8)) w A1 l1.length l1) (hc1 : l1.length ≤ c1) (hr3 : Kd.C (Kd.slice 5 (Kd.int .u8)) w A3 l3.length l3) (hc3 : l3.length ≤ c3) (hr4 : Kd.C (Kd.int .u8) w A4 l4.length l4) (hc4 : l4.length ≤ c4) (h : laws_FnConsistencySound.f k a0_0 a0_1 a0_2 a0_3 a0_4 a0_5 l1 a2 l3 l4 = some r) :
    Calls Tryd.prog 8 #[.agg #[.int .i64 a0_0, .int .i64 a0_1, .int .i64 a0_2, .int .u64 a0_3, .int .u64 a0_4, .int .u64 a0_5], .slice A1 l1.length c1, .int .u64 a2, .slice A3 l3.length c3, .slice A4 l4.length c4] w fun e w' => e = .returned (.bool r) ∧ Below w.heap.size w w' := by
  have hu24 := Tryd.underlying24
  have HR1 := Aside0.mk hr1
  have HC1 := Aside0.mk hc1
  clear hr1 hc1
  have HR3 := Aside0.mk hr3
  have HC3 := Aside0.mk hc3
  clear hr3 hc3
  have HR4 := Aside0.mk hr4
  have HC4 := Aside0.mk hc4
  clear hr4 hc4
  have HB := Aside0.mk (Below.refl w.heap.size w)
  have H : ((laws_zzFits2.f k l1).bind fun t715 => (if t715 = true then ((laws_zzFits2.f k l3).bind fun t716 => (if t716 = true then (laws_FnConsistencySound.j0 k l1 a2 l3 l4 (decide ((l4.length : Int) > 2147483647)) a0_0 a0_1 a0_2 a0_3 a0_4 a0_5) else (laws_FnConsistencySound.j0 k l1 a2 l3 l4 true a0_0 a0_1 a0_2 a0_3 a0_4 a0_5))) else (laws_FnConsistencySound.j0 k l1 a2 l3 l4 true a0_0 a0_1 a0_2 a0_3 a0_4 a0_5))) = some r := h
  clear h
  have HC6 := Aside0.mk H
  clear H
  go_enter Tryd.func8, Tryd.ntmps8
  go_upto_region 1 with (first | ((with_reducible refine gate_dst (N := 5) rfl ?_); (try (refine gate_guard (by rfl) ?_; dsimp only)); refine box_event ?hg (N := 5) ?hd (cs := #[.int .i64 a0_0, .int .i64 a0_1, .int .i64 a0_2, .int .u64 a0_3, .int .u64 a0_4, .int .u64 a0_5]) (t := 24) ?hr ?_; (case hd => rfl); (case hg => rfl); (case hr => first | (go_simp; done) | (go_simp; rfl)); intro gb714 hg w7 hbox hb; have n0_ := Aside0.mk (below_step (by repeat (first | (with_reducible first | exact HB.out | apply below_alloc | apply pw_below_drewN | apply below_drew1) | exact HB.out)) hb); have n1_ := Aside0.mk (hbox); have n2_ := Aside0.mk ((by rw [hg]; exact (below_size (by repeat (first | (with_reducible first | exact HB.out | apply below_alloc | apply pw_below_drewN | apply below_drew1) | exact HB.out))) : w.heap.size ≤ gb714)); have n3_ := Aside0.mk ((by rw [hg]; exact (below_size (by repeat (first | (with_reducible first | exact HB.out | apply below_alloc | apply pw_below_drewN | apply below_drew1) | exact HB.out))) : w.heap.size ≤ gb714)); clear HB; have HB := n0_; have BK714 := n1_; have GW714 := n2_; have GE714 := n3_; clear n0_ n1_ n2_ n3_; clear hb hbox hg))
  (try simp only [Act.put, List.setIfInBounds_toArray, List.set_cons_zero, List.set_cons_succ])
  go_cut [28] (fun v28 wc => ∃ (kq : Nat) (x28_5 : Bool), v28 = .bool x28_5 ∧ Aside0 (laws_FnConsistencySound.j0 kq l1 a2 l3 l4 x28_5 a0_0 a0_1 a0_2 a0_3 a0_4 a0_5 = some r) ∧ Aside0 (kq ≤ k) ∧ Aside0 (wc.heap[gb714]? = some (.cells #[.int .i64 a0_0, .int .i64 a0_1, .int .i64 a0_2, .int .u64 a0_3, .int .u64 a0_4, .int .u64 a0_5] 24 (0, 0))) ∧ Aside0 (Below w.heap.size w wc))
  case first =>
    have H := HC6.out
    clear HC6
    replace H := Option.bind_eq_some_iff.mp H
    obtain ⟨t715, A80, H⟩ := H
    replace H : (if t715 = true then ((laws_zzFits2.f k l3).bind fun t716 => (if t716 = true then (laws_FnConsistencySound.j0 k l1 a2 l3 l4 (decide ((l4.length : Int) > 2147483647)) a0_0 a0_1 a0_2 a0_3 a0_4 a0_5) else (laws_FnConsistencySound.j0 k l1 a2 l3 l4 true a0_0 a0_1 a0_2 a0_3 a0_4 a0_5))) else (laws_FnConsistencySound.j0 k l1 a2 l3 l4 true a0_0 a0_1 a0_2 a0_3 a0_4 a0_5)) = some r := H
    have A8 := Aside0.mk A80
    clear A80
    by_cases c9 : t715 = true
    · subst c9
      have H1 : ((laws_zzFits2.f k l3).bind fun t716 => (if t716 = true then (laws_FnConsistencySound.j0 k l1 a2 l3 l4 (decide ((l4.length : Int) > 2147483647)) a0_0 a0_1 a0_2 a0_3 a0_4 a0_5) else (laws_FnConsistencySound.j0 k l1 a2 l3 l4 true a0_0 a0_1 a0_2 a0_3 a0_4 a0_5))) = some r := by rw [if_pos rfl] at H; exact H
      clear H
      have H := H1
      clear H1
      replace H := Option.bind_eq_some_iff.mp H
      obtain ⟨t716, A100, H⟩ := H
      replace H : (if t716 = true then (laws_FnConsistencySound.j0 k l1 a2 l3 l4 (decide ((l4.length : Int) > 2147483647)) a0_0 a0_1 a0_2 a0_3 a0_4 a0_5) else (laws_FnConsistencySound.j0 k l1 a2 l3 l4 true a0_0 a0_1 a0_2 a0_3 a0_4 a0_5)) = some r := H
      have A10 := Aside0.mk A100
      clear A100
      by_cases c11 : t716 = true
      · subst c11
        have H1 : (laws_FnConsistencySound.j0 k l1 a2 l3 l4 (decide ((l4.length : Int) > 2147483647)) a0_0 a0_1 a0_2 a0_3 a0_4 a0_5) = some r := by rw [if_pos rfl] at H; exact H
        clear H
        have H := H1
        clear H1
        have H' := Aside0.mk H
        clear H
        go_wp2_with (first | ((with_reducible refine gate_callee (f := 12) rfl ?_); refine goesL_ (some 17) rfl rfl Tryd.func12 (by kernel_rfl) rfl #[.slice A1 l1.length c1] rfl (by (try simp only [List.map_toArray, List.map_cons, List.map_nil]); first | done | rfl | (simp only [List.length_drop, List.length_take]; rfl)) ?_; (with_reducible refine (laws_zzFits2.calls k _ _ l1 true _ ?side1 ?side2 A8.out).mono ?_); (case side1 => repeat (first | exact (Kd.C_below HR1.out HB.out) | (with_reducible refine Kd.C_alloc ?_ _) | (with_reducible refine Kd.C_drewN ?_ _) | (with_reducible refine Kd.C_drew ?_))); (case side2 => exact HC1.out); rintro e w' ⟨rfl, ⟨nd, rfl⟩⟩; refine ⟨_, rfl, ?_⟩) | (go_at_call 12; (with_reducible refine (laws_zzFits2.calls k _ _ l3 true _ ?side1 ?side2 A10.out).mono ?_); (case side1 => repeat (first | exact (Kd.C_below HR3.out (by repeat (first | (with_reducible first | exact HB.out | apply below_alloc | apply pw_below_drewN | apply below_drew1 | refine below_set ?_ GE714.out) | exact HB.out))) | (with_reducible refine Kd.C_alloc ?_ _) | (with_reducible refine Kd.C_drewN ?_ _) | (with_reducible refine Kd.C_drew ?_))); (case side2 => exact HC3.out); rintro e w' ⟨rfl, ⟨nd, rfl⟩⟩))
        go_meet
        case rel => exact ⟨_, (decide ((l4.length : Int) > 2147483647)), (by first | rfl | (simp; done) | (simp [*]; done)), H', ⟨by first | omega | exact Nat.le_refl _⟩, ⟨by (with_reducible repeat (first | refine blk_drewN ?_ _ | refine blk_drew ?_ | refine blk_alloc ?_ _)); exact BK714.out⟩, ⟨by repeat (first | (with_reducible first | exact HB.out | apply below_alloc | apply pw_below_drewN | apply below_drew1 | refine below_set ?_ GE714.out) | exact HB.out)⟩⟩
      · replace c11 := Bool.eq_false_iff.mpr c11
        subst c11
        have H1 : (laws_FnConsistencySound.j0 k l1 a2 l3 l4 true a0_0 a0_1 a0_2 a0_3 a0_4 a0_5) = some r := by rw [if_neg (show ¬ (false = true) by decide)] at H; exact H
        clear H
        have H := H1
        clear H1
        have H' := Aside0.mk H
        clear H
        go_wp2_with (first | ((with_reducible refine gate_callee (f := 12) rfl ?_); refine goesL_ (some 17) rfl rfl Tryd.func12 (by kernel_rfl) rfl #[.slice A1 l1.length c1] rfl (by (try simp only [List.map_toArray, List.map_cons, List.map_nil]); first | done | rfl | (simp only [List.length_drop, List.length_take]; rfl)) ?_; (with_reducible refine (laws_zzFits2.calls k _ _ l1 true _ ?side1 ?side2 A8.out).mono ?_); (case side1 => repeat (first | exact (Kd.C_below HR1.out HB.out) | (with_reducible refine Kd.C_alloc ?_ _) | (with_reducible refine Kd.C_drewN ?_ _) | (with_reducible refine Kd.C_drew ?_))); (case side2 => exact HC1.out); rintro e w' ⟨rfl, ⟨nd, rfl⟩⟩; refine ⟨_, rfl, ?_⟩) | (go_at_call 12; (with_reducible refine (laws_zzFits2.calls k _ _ l3 false _ ?side1 ?side2 A10.out).mono ?_); (case side1 => repeat (first | exact (Kd.C_below HR3.out (by repeat (first | (with_reducible first | exact HB.out | apply below_alloc | apply pw_below_drewN | apply below_drew1 | refine below_set ?_ GE714.out) | exact HB.out))) | (with_reducible refine Kd.C_alloc ?_ _) | (with_reducible refine Kd.C_drewN ?_ _) | (with_reducible refine Kd.C_drew ?_))); (case side2 => exact HC3.out); rintro e w' ⟨rfl, ⟨nd, rfl⟩⟩))
        go_meet
        case rel => exact ⟨_, (true), (by first | rfl | (simp; done) | (simp [*]; done)), H', ⟨by first | omega | exact Nat.le_refl _⟩, ⟨by (with_reducible repeat (first | refine blk_drewN ?_ _ | refine blk_drew ?_ | refine blk_alloc ?_ _)); exact BK714.out⟩, ⟨by repeat (first | (with_reducible first | exact HB.out | apply below_alloc | apply pw_below_drewN | apply below_drew1 | refine below_set ?_ GE714.out) | exact HB.out)⟩⟩
    · replace c9 := Bool.eq_false_iff.mpr c9
      subst c9
      have H1 : (laws_FnConsistencySound.j0 k l1 a2 l3 l4 true a0_0 a0_1 a0_2 a0_3 a0_4 a0_5) = some r := by rw [if_neg (show ¬ (false = true) by decide)] at H; exact H
      clear H
      have H := H1
      clear H1
      have H' := Aside0.mk H
      clear H
      go_wp2_with (first | ((with_reducible refine gate_callee (f := 12) rfl ?_); refine goesL_ (some 17) rfl rfl Tryd.func12 (by kernel_rfl) rfl #[.slice A1 l1.length c1] rfl (by (try simp only [List.map_toArray, List.map_cons, List.map_nil]); first | done | rfl | (simp only [List.length_drop, List.length_take]; rfl)) ?_; (with_reducible refine (laws_zzFits2.calls k _ _ l1 false _ ?side1 ?side2 A8.out).mono ?_); (case side1 => repeat (first | exact (Kd.C_below HR1.out HB.out) | (with_reducible refine Kd.C_alloc ?_ _) | (with_reducible refine Kd.C_drewN ?_ _) | (with_reducible refine Kd.C_drew ?_))); (case side2 => exact HC1.out); rintro e w' ⟨rfl, ⟨nd, rfl⟩⟩; refine ⟨_, rfl, ?_⟩))
      go_meet
      case rel => exact ⟨_, (true), (by first | rfl | (simp; done) | (simp [*]; done)), H', ⟨by first | omega | exact Nat.le_refl _⟩, ⟨by (with_reducible repeat (first | refine blk_drewN ?_ _ | refine blk_drew ?_ | refine blk_alloc ?_ _)); exact BK714.out⟩, ⟨by repeat (first | (with_reducible first | exact HB.out | apply below_alloc | apply pw_below_drewN | apply below_drew1 | refine below_set ?_ GE714.out) | exact HB.out)⟩⟩
  case rest =>
    clear HC6
    try clear c1
    try clear p2
    try clear c3
    try clear c4
    try clear c8
    try clear c9
    try clear c11
    obtain ⟨kq, x28_5, rfl, HA, HJ5, BK714, HB⟩ := hcut
    cases kq with
    | zero => exact absurd HA.out (by simp [laws_FnConsistencySound.j0])
    | succ kj5 =>
      have H := HA.out
      clear HA
      simp only [laws_FnConsistencySound.j0] at H
      by_cases c12 : x28_5 = true
      · subst c12
        have H1 : (some true) = some r := by rw [if_pos rfl] at H; exact H
        clear H
        have H := H1
        clear H1
        obtain rfl := Option.some.inj H
        go_wp2
        go_ret
        exact ⟨by first | rfl | (simp [errW_none, errW_some] <;> rfl) | (simp [*, errW_none, errW_some] <;> rfl), by repeat (first | (with_reducible first | exact HB.out | apply below_alloc | apply pw_below_drewN | apply below_drew1 | refine below_set ?_ GE714.out) | exact HB.out)⟩
      · replace c12 := Bool.eq_false_iff.mpr c12
        subst c12
        have H1 : ((spec_Terms.f a0_0 a0_1 a0_2 a0_3 a0_4 a0_5).bind fun t717 => (if t717 = true then ((laws_logSmall.f kj5 l1).bind fun t718 => (if t718 = true then ((laws_logSmall.f kj5 l3).bind fun t719 => (if t719 = true then (if (l4.length : Int) > 100000 then (laws_FnConsistencySound.j1 kj5 l1 a2 l3 l4 (IntKind.u64.wrap ((l1.length : Int))) true a0_0 a0_1 a0_2 a0_3 a0_4 a0_5) else (if a2 = 0 then (laws_FnConsistencySound.j1 kj5 l1 a2 l3 l4 (IntKind.u64.wrap ((l1.length : Int))) true a0_0 a0_1 a0_2 a0_3 a0_4 a0_5) else (laws_FnConsistencySound.j1 kj5 l1 a2 l3 l4 (IntKind.u64.wrap ((l1.length : Int))) (decide (a2 > (IntKind.u64.wrap ((l1.length : Int))))) a0_0 a0_1 a0_2 a0_3 a0_4 a0_5))) else (laws_FnConsistencySound.j1 kj5 l1 a2 l3 l4 (IntKind.u64.wrap ((l1.length : Int))) true a0_0 a0_1 a0_2 a0_3 a0_4 a0_5))) else (laws_FnConsistencySound.j1 kj5 l1 a2 l3 l4 (IntKind.u64.wrap ((l1.length : Int))) true a0_0 a0_1 a0_2 a0_3 a0_4 a0_5))) else (laws_FnConsistencySound.j1 kj5 l1 a2 l3 l4 (IntKind.u64.wrap ((l1.length : Int))) true a0_0 a0_1 a0_2 a0_3 a0_4 a0_5))) = some r := by rw [if_neg (show ¬ (false = true) by decide)] at H; exact H
        clear H
        have H := H1
        clear H1
        have HC13 := Aside0.mk H
        clear H
        go_upto_region 4 with (fail)
        go_cut [58] (fun v58 wc => ∃ (kq : Nat) (x58_12 : Bool), v58 = .bool x58_12 ∧ Aside0 (laws_FnConsistencySound.j1 kq l1 a2 l3 l4 (IntKind.u64.wrap ((l1.length : Int))) x58_12 a0_0 a0_1 a0_2 a0_3 a0_4 a0_5 = some r) ∧ Aside0 (kq ≤ kj5) ∧ Aside0 (wc.heap[gb714]? = some (.cells #[.int .i64 a0_0, .int .i64 a0_1, .int .i64 a0_2, .int .u64 a0_3, .int .u64 a0_4, .int .u64 a0_5] 24 (0, 0))) ∧ Aside0 (Below w.heap.size w wc))
        case first =>
          have H := HC13.out
          clear HC13
          replace H := Option.bind_eq_some_iff.mp H
          obtain ⟨t717, A140, H⟩ := H
          replace H : (if t717 = true then ((laws_logSmall.f kj5 l1).bind fun t718 => (if t718 = true then ((laws_logSmall.f kj5 l3).bind fun t719 => (if t719 = true then (if (l4.length : Int) > 100000 then (laws_FnConsistencySound.j1 kj5 l1 a2 l3 l4 (IntKind.u64.wrap ((l1.length : Int))) true a0_0 a0_1 a0_2 a0_3 a0_4 a0_5) else (if a2 = 0 then (laws_FnConsistencySound.j1 kj5 l1 a2 l3 l4 (IntKind.u64.wrap ((l1.length : Int))) true a0_0 a0_1 a0_2 a0_3 a0_4 a0_5) else (laws_FnConsistencySound.j1 kj5 l1 a2 l3 l4 (IntKind.u64.wrap ((l1.length : Int))) (decide (a2 > (IntKind.u64.wrap ((l1.length : Int))))) a0_0 a0_1 a0_2 a0_3 a0_4 a0_5))) else (laws_FnConsistencySound.j1 kj5 l1 a2 l3 l4 (IntKind.u64.wrap ((l1.length : Int))) true a0_0 a0_1 a0_2 a0_3 a0_4 a0_5))) else (laws_FnConsistencySound.j1 kj5 l1 a2 l3 l4 (IntKind.u64.wrap ((l1.length : Int))) true a0_0 a0_1 a0_2 a0_3 a0_4 a0_5))) else (laws_FnConsistencySound.j1 kj5 l1 a2 l3 l4 (IntKind.u64.wrap ((l1.length : Int))) true a0_0 a0_1 a0_2 a0_3 a0_4 a0_5)) = some r := H
          have A14 := Aside0.mk A140
          clear A140
          by_cases c15 : t717 = true
          · subst c15
            have H1 : ((laws_logSmall.f kj5 l1).bind fun t718 => (if t718 = true then ((laws_logSmall.f kj5 l3).bind fun t719 => (if t719 = true then (if (l4.length : Int) > 100000 then (laws_FnConsistencySound.j1 kj5 l1 a2 l3 l4 (IntKind.u64.wrap ((l1.length : Int))) true a0_0 a0_1 a0_2 a0_3 a0_4 a0_5) else (if a2 = 0 then (laws_FnConsistencySound.j1 kj5 l1 a2 l3 l4 (IntKind.u64.wrap ((l1.length : Int))) true a0_0 a0_1 a0_2 a0_3 a0_4 a0_5) else (laws_FnConsistencySound.j1 kj5 l1 a2 l3 l4 (IntKind.u64.wrap ((l1.length : Int))) (decide (a2 > (IntKind.u64.wrap ((l1.length : Int))))) a0_0 a0_1 a0_2 a0_3 a0_4 a0_5))) else (laws_FnConsistencySound.j1 kj5 l1 a2 l3 l4 (IntKind.u64.wrap ((l1.length : Int))) true a0_0 a0_1 a0_2 a0_3 a0_4 a0_5))) else (laws_FnConsistencySound.j1 kj5 l1 a2 l3 l4 (IntKind.u64.wrap ((l1.length : Int))) true a0_0 a0_1 a0_2 a0_3 a0_4 a0_5))) = some r := by rw [if_pos rfl] at H; exact H
            clear H
            have H := H1
            clear H1
            replace H := Option.bind_eq_some_iff.mp H
            obtain ⟨t718, A160, H⟩ := H
            replace H : (if t718 = true then ((laws_logSmall.f kj5 l3).bind fun t719 => (if t719 = true then (if (l4.length : Int) > 100000 then (laws_FnConsistencySound.j1 kj5 l1 a2 l3 l4 (IntKind.u64.wrap ((l1.length : Int))) true a0_0 a0_1 a0_2 a0_3 a0_4 a0_5) else (if a2 = 0 then (laws_FnConsistencySound.j1 kj5 l1 a2 l3 l4 (IntKind.u64.wrap ((l1.length : Int))) true a0_0 a0_1 a0_2 a0_3 a0_4 a0_5) else (laws_FnConsistencySound.j1 kj5 l1 a2 l3 l4 (IntKind.u64.wrap ((l1.length : Int))) (decide (a2 > (IntKind.u64.wrap ((l1.length : Int))))) a0_0 a0_1 a0_2 a0_3 a0_4 a0_5))) else (laws_FnConsistencySound.j1 kj5 l1 a2 l3 l4 (IntKind.u64.wrap ((l1.length : Int))) true a0_0 a0_1 a0_2 a0_3 a0_4 a0_5))) else (laws_FnConsistencySound.j1 kj5 l1 a2 l3 l4 (IntKind.u64.wrap ((l1.length : Int))) true a0_0 a0_1 a0_2 a0_3 a0_4 a0_5)) = some r := H
            have A16 := Aside0.mk A160
            clear A160
            by_cases c17 : t718 = true
            · subst c17
              have H1 : ((laws_logSmall.f kj5 l3).bind fun t719 => (if t719 = true then (if (l4.length : Int) > 100000 then (laws_FnConsistencySound.j1 kj5 l1 a2 l3 l4 (IntKind.u64.wrap ((l1.length : Int))) true a0_0 a0_1 a0_2 a0_3 a0_4 a0_5) else (if a2 = 0 then (laws_FnConsistencySound.j1 kj5 l1 a2 l3 l4 (IntKind.u64.wrap ((l1.length : Int))) true a0_0 a0_1 a0_2 a0_3 a0_4 a0_5) else (laws_FnConsistencySound.j1 kj5 l1 a2 l3 l4 (IntKind.u64.wrap ((l1.length : Int))) (decide (a2 > (IntKind.u64.wrap ((l1.length : Int))))) a0_0 a0_1 a0_2 a0_3 a0_4 a0_5))) else (laws_FnConsistencySound.j1 kj5 l1 a2 l3 l4 (IntKind.u64.wrap ((l1.length : Int))) true a0_0 a0_1 a0_2 a0_3 a0_4 a0_5))) = some r := by rw [if_pos rfl] at H; exact H
              clear H
              have H := H1
              clear H1
              replace H := Option.bind_eq_some_iff.mp H
              obtain ⟨t719, A180, H⟩ := H
              replace H : (if t719 = true then (if (l4.length : Int) > 100000 then (laws_FnConsistencySound.j1 kj5 l1 a2 l3 l4 (IntKind.u64.wrap ((l1.length : Int))) true a0_0 a0_1 a0_2 a0_3 a0_4 a0_5) else (if a2 = 0 then (laws_FnConsistencySound.j1 kj5 l1 a2 l3 l4 (IntKind.u64.wrap ((l1.length : Int))) true a0_0 a0_1 a0_2 a0_3 a0_4 a0_5) else (laws_FnConsistencySound.j1 kj5 l1 a2 l3 l4 (IntKind.u64.wrap ((l1.length : Int))) (decide (a2 > (IntKind.u64.wrap ((l1.length : Int))))) a0_0 a0_1 a0_2 a0_3 a0_4 a0_5))) else (laws_FnConsistencySound.j1 kj5 l1 a2 l3 l4 (IntKind.u64.wrap ((l1.length : Int))) true a0_0 a0_1 a0_2 a0_3 a0_4 a0_5)) = some r := H
              have A18 := Aside0.mk A180
              clear A180
              by_cases c19 : t719 = true
              · subst c19
                have H1 : (if (l4.length : Int) > 100000 then (laws_FnConsistencySound.j1 kj5 l1 a2 l3 l4 (IntKind.u64.wrap ((l1.length : Int))) true a0_0 a0_1 a0_2 a0_3 a0_4 a0_5) else (if a2 = 0 then (laws_FnConsistencySound.j1 kj5 l1 a2 l3 l4 (IntKind.u64.wrap ((l1.length : Int))) true a0_0 a0_1 a0_2 a0_3 a0_4 a0_5) else (laws_FnConsistencySound.j1 kj5 l1 a2 l3 l4 (IntKind.u64.wrap ((l1.length : Int))) (decide (a2 > (IntKind.u64.wrap ((l1.length : Int))))) a0_0 a0_1 a0_2 a0_3 a0_4 a0_5))) = some r := by rw [if_pos rfl] at H; exact H
                clear H
                have H := H1
                clear H1
                by_cases c20 : (l4.length : Int) > 100000
                · rw [if_pos c20] at H
                  have c20b0 : decide (100000 < (l4.length : Int)) = true := decide_eq_true c20
                  have c20b1 : decide (100000 < l4.length) = true := decide_eq_true (by omega)
                  clear c20
                  (first | rw [c20b0] | (simp only [i64_w, i32_w]; rw [c20b0]) | skip)
                  have H' := Aside0.mk H
                  clear H
                  have hcz21_0 : wc.cell? ⟨gb714, 0, none⟩ = some (.int .i64 a0_0) := (blk_cell BK714.out 0).trans rfl
                  have hcz21_1 : wc.cell? ⟨gb714, 1, none⟩ = some (.int .i64 a0_1) := (blk_cell BK714.out 1).trans rfl
                  have hcz21_2 : wc.cell? ⟨gb714, 2, none⟩ = some (.int .i64 a0_2) := (blk_cell BK714.out 2).trans rfl
                  have hcz21_3 : wc.cell? ⟨gb714, 3, none⟩ = some (.int .u64 a0_3) := (blk_cell BK714.out 3).trans rfl
                  have hcz21_4 : wc.cell? ⟨gb714, 4, none⟩ = some (.int .u64 a0_4) := (blk_cell BK714.out 4).trans rfl
                  have hcz21_5 : wc.cell? ⟨gb714, 5, none⟩ = some (.int .u64 a0_5) := (blk_cell BK714.out 5).trans rfl
                  have hfz21_0 := blk_frozen BK714.out 0
                  have hfz21_1 := blk_frozen BK714.out 1
                  have hfz21_2 := blk_frozen BK714.out 2
                  have hfz21_3 := blk_frozen BK714.out 3
                  have hfz21_4 := blk_frozen BK714.out 4
                  have hfz21_5 := blk_frozen BK714.out 5
                  go_wp2_with (first | ((with_reducible refine gate_callee (f := 35) rfl ?_); refine goesL_ (some 33) rfl rfl Tryd.func35 (by kernel_rfl) rfl #[.agg #[.int .i64 a0_0, .int .i64 a0_1, .int .i64 a0_2, .int .u64 a0_3, .int .u64 a0_4, .int .u64 a0_5]] rfl (by (try simp only [List.map_toArray, List.map_cons, List.map_nil]); first | done | rfl | (simp only [List.length_drop, List.length_take]; rfl)) ?_; (with_reducible refine (spec_Terms.calls a0_0 a0_1 a0_2 a0_3 a0_4 a0_5 true _ A14.out).mono ?_); rintro e w22 ⟨rfl, hb⟩; refine ⟨_, rfl, ?_⟩; have n0_ := Aside0.mk (blk_below (g := gb714) (o := .cells #[.int .i64 a0_0, .int .i64 a0_1, .int .i64 a0_2, .int .u64 a0_3, .int .u64 a0_4, .int .u64 a0_5] 24 (0, 0)) (by (with_reducible repeat (first | refine blk_drewN ?_ _ | refine blk_drew ?_ | refine blk_alloc ?_ _)); exact BK714.out) hb); have n1_ := Aside0.mk (below_step (by repeat (first | (with_reducible first | exact HB.out | apply below_alloc | apply pw_below_drewN | apply below_drew1 | refine below_set ?_ GE714.out) | exact HB.out)) hb); clear BK714; clear HB; have BK714 := n0_; have HB := n1_; clear n0_ n1_; (try clear hb); (try clear hb2); (try clear hk); (try clear hi)) | (go_at_call 13; (with_reducible refine (laws_logSmall.calls kj5 _ _ l1 true _ ?side1 ?side2 A16.out).mono ?_); (case side1 => repeat (first | exact (Kd.C_below HR1.out HB.out) | (with_reducible refine Kd.C_alloc ?_ _) | (with_reducible refine Kd.C_drewN ?_ _) | (with_reducible refine Kd.C_drew ?_))); (case side2 => exact HC1.out); rintro e w' ⟨rfl, ⟨nd, rfl⟩⟩) | (go_at_call 13; (with_reducible refine (laws_logSmall.calls kj5 _ _ l3 true _ ?side1 ?side2 A18.out).mono ?_); (case side1 => repeat (first | exact (Kd.C_below HR3.out (by repeat (first | (with_reducible first | exact HB.out | apply below_alloc | apply pw_below_drewN | apply below_drew1 | refine below_set ?_ GE714.out) | exact HB.out))) | (with_reducible refine Kd.C_alloc ?_ _) | (with_reducible refine Kd.C_drewN ?_ _) | (with_reducible refine Kd.C_drew ?_))); (case side2 => exact HC3.out); rintro e w' ⟨rfl, ⟨nd, rfl⟩⟩))
                  go_meet
                  case rel => exact ⟨_, (true), (by first | rfl | (simp; done) | (simp [*]; done)), H', ⟨by have := HJ5.out; first | omega | exact Nat.le_refl _⟩, ⟨by (with_reducible repeat (first | refine blk_drewN ?_ _ | refine blk_drew ?_ | refine blk_alloc ?_ _)); exact BK714.out⟩, ⟨by repeat (first | (with_reducible first | exact HB.out | apply below_alloc | apply pw_below_drewN | apply below_drew1 | refine below_set ?_ GE714.out) | exact HB.out)⟩⟩
                · rw [if_neg c20] at H
                  have c20b0 : decide (100000 < (l4.length : Int)) = false := decide_eq_false c20
                  have c20b1 : decide (100000 < l4.length) = false := decide_eq_false (by omega)
                  clear c20
                  (first | rw [c20b0] | (simp only [i64_w, i32_w]; rw [c20b0]) | skip)
                  by_cases c23 : a2 = 0
                  · rw [if_pos c23] at H
                    have c23b0 : (a2 == 0) = true := beq_iff_eq.mpr c23
                    have c23b1 : (a2 != 0) = false := bne_eq_false_iff_eq.mpr c23
                    clear c23
                    have H' := Aside0.mk H
                    clear H
                    have hcz24_0 : wc.cell? ⟨gb714, 0, none⟩ = some (.int .i64 a0_0) := (blk_cell BK714.out 0).trans rfl
                    have hcz24_1 : wc.cell? ⟨gb714, 1, none⟩ = some (.int .i64 a0_1) := (blk_cell BK714.out 1).trans rfl
                    have hcz24_2 : wc.cell? ⟨gb714, 2, none⟩ = some (.int .i64 a0_2) := (blk_cell BK714.out 2).trans rfl
                    have hcz24_3 : wc.cell? ⟨gb714, 3, none⟩ = some (.int .u64 a0_3) := (blk_cell BK714.out 3).trans rfl
                    have hcz24_4 : wc.cell? ⟨gb714, 4, none⟩ = some (.int .u64 a0_4) := (blk_cell BK714.out 4).trans rfl
                    have hcz24_5 : wc.cell? ⟨gb714, 5, none⟩ = some (.int .u64 a0_5) := (blk_cell BK714.out 5).trans rfl
                    have hfz24_0 := blk_frozen BK714.out 0
                    have hfz24_1 := blk_frozen BK714.out 1
                    have hfz24_2 := blk_frozen BK714.out 2
                    have hfz24_3 := blk_frozen BK714.out 3
                    have hfz24_4 := blk_frozen BK714.out 4
                    have hfz24_5 := blk_frozen BK714.out 5
                    go_wp2_with (first | ((with_reducible refine gate_callee (f := 35) rfl ?_); refine goesL_ (some 33) rfl rfl Tryd.func35 (by kernel_rfl) rfl #[.agg #[.int .i64 a0_0, .int .i64 a0_1, .int .i64 a0_2, .int .u64 a0_3, .int .u64 a0_4, .int .u64 a0_5]] rfl (by (try simp only [List.map_toArray, List.map_cons, List.map_nil]); first | done | rfl | (simp only [List.length_drop, List.length_take]; rfl)) ?_; (with_reducible refine (spec_Terms.calls a0_0 a0_1 a0_2 a0_3 a0_4 a0_5 true _ A14.out).mono ?_); rintro e w25 ⟨rfl, hb⟩; refine ⟨_, rfl, ?_⟩; have n0_ := Aside0.mk (blk_below (g := gb714) (o := .cells #[.int .i64 a0_0, .int .i64 a0_1, .int .i64 a0_2, .int .u64 a0_3, .int .u64 a0_4, .int .u64 a0_5] 24 (0, 0)) (by (with_reducible repeat (first | refine blk_drewN ?_ _ | refine blk_drew ?_ | refine blk_alloc ?_ _)); exact BK714.out) hb); have n1_ := Aside0.mk (below_step (by repeat (first | (with_reducible first | exact HB.out | apply below_alloc | apply pw_below_drewN | apply below_drew1 | refine below_set ?_ GE714.out) | exact HB.out)) hb); clear BK714; clear HB; have BK714 := n0_; have HB := n1_; clear n0_ n1_; (try clear hb); (try clear hb2); (try clear hk); (try clear hi)) | (go_at_call 13; (with_reducible refine (laws_logSmall.calls kj5 _ _ l1 true _ ?side1 ?side2 A16.out).mono ?_); (case side1 => repeat (first | exact (Kd.C_below HR1.out HB.out) | (with_reducible refine Kd.C_alloc ?_ _) | (with_reducible refine Kd.C_drewN ?_ _) | (with_reducible refine Kd.C_drew ?_))); (case side2 => exact HC1.out); rintro e w' ⟨rfl, ⟨nd, rfl⟩⟩) | (go_at_call 13; (with_reducible refine (laws_logSmall.calls kj5 _ _ l3 true _ ?side1 ?side2 A18.out).mono ?_); (case side1 => repeat (first | exact (Kd.C_below HR3.out (by repeat (first | (with_reducible first | exact HB.out | apply below_alloc | apply pw_below_drewN | apply below_drew1 | refine below_set ?_ GE714.out) | exact HB.out))) | (with_reducible refine Kd.C_alloc ?_ _) | (with_reducible refine Kd.C_drewN ?_ _) | (with_reducible refine Kd.C_drew ?_))); (case side2 => exact HC3.out); rintro e w' ⟨rfl, ⟨nd, rfl⟩⟩))
                    go_meet
                    case rel => exact ⟨_, (true), (by first | rfl | (simp; done) | (simp [*]; done)), H', ⟨by have := HJ5.out; first | omega | exact Nat.le_refl _⟩, ⟨by (with_reducible repeat (first | refine blk_drewN ?_ _ | refine blk_drew ?_ | refine blk_alloc ?_ _)); exact BK714.out⟩, ⟨by repeat (first | (with_reducible first | exact HB.out | apply below_alloc | apply pw_below_drewN | apply below_drew1 | refine below_set ?_ GE714.out) | exact HB.out)⟩⟩
                  · rw [if_neg c23] at H
                    have c23b0 : (a2 == 0) = false := beq_eq_false_iff_ne.mpr c23
                    have c23b1 : (a2 != 0) = true := bne_iff_ne.mpr c23
                    have H' := Aside0.mk H
                    clear H
                    have hcz26_0 : wc.cell? ⟨gb714, 0, none⟩ = some (.int .i64 a0_0) := (blk_cell BK714.out 0).trans rfl
                    have hcz26_1 : wc.cell? ⟨gb714, 1, none⟩ = some (.int .i64 a0_1) := (blk_cell BK714.out 1).trans rfl
                    have hcz26_2 : wc.cell? ⟨gb714, 2, none⟩ = some (.int .i64 a0_2) := (blk_cell BK714.out 2).trans rfl
                    have hcz26_3 : wc.cell? ⟨gb714, 3, none⟩ = some (.int .u64 a0_3) := (blk_cell BK714.out 3).trans rfl
                    have hcz26_4 : wc.cell? ⟨gb714, 4, none⟩ = some (.int .u64 a0_4) := (blk_cell BK714.out 4).trans rfl
                    have hcz26_5 : wc.cell? ⟨gb714, 5, none⟩ = some (.int .u64 a0_5) := (blk_cell BK714.out 5).trans rfl
                    have hfz26_0 := blk_frozen BK714.out 0
                    have hfz26_1 := blk_frozen BK714.out 1
                    have hfz26_2 := blk_frozen BK714.out 2
                    have hfz26_3 := blk_frozen BK714.out 3
                    have hfz26_4 := blk_frozen BK714.out 4
                    have hfz26_5 := blk_frozen BK714.out 5
                    go_wp2_with (first | ((with_reducible refine gate_callee (f := 35) rfl ?_); refine goesL_ (some 33) rfl rfl Tryd.func35 (by kernel_rfl) rfl #[.agg #[.int .i64 a0_0, .int .i64 a0_1, .int .i64 a0_2, .int .u64 a0_3, .int .u64 a0_4, .int .u64 a0_5]] rfl (by (try simp only [List.map_toArray, List.map_cons, List.map_nil]); first | done | rfl | (simp only [List.length_drop, List.length_take]; rfl)) ?_; (with_reducible refine (spec_Terms.calls a0_0 a0_1 a0_2 a0_3 a0_4 a0_5 true _ A14.out).mono ?_); rintro e w27 ⟨rfl, hb⟩; refine ⟨_, rfl, ?_⟩; have n0_ := Aside0.mk (blk_below (g := gb714) (o := .cells #[.int .i64 a0_0, .int .i64 a0_1, .int .i64 a0_2, .int .u64 a0_3, .int .u64 a0_4, .int .u64 a0_5] 24 (0, 0)) (by (with_reducible repeat (first | refine blk_drewN ?_ _ | refine blk_drew ?_ | refine blk_alloc ?_ _)); exact BK714.out) hb); have n1_ := Aside0.mk (below_step (by repeat (first | (with_reducible first | exact HB.out | apply below_alloc | apply pw_below_drewN | apply below_drew1 | refine below_set ?_ GE714.out) | exact HB.out)) hb); clear BK714; clear HB; have BK714 := n0_; have HB := n1_; clear n0_ n1_; (try clear hb); (try clear hb2); (try clear hk); (try clear hi)) | (go_at_call 13; (with_reducible refine (laws_logSmall.calls kj5 _ _ l1 true _ ?side1 ?side2 A16.out).mono ?_); (case side1 => repeat (first | exact (Kd.C_below HR1.out HB.out) | (with_reducible refine Kd.C_alloc ?_ _) | (with_reducible refine Kd.C_drewN ?_ _) | (with_reducible refine Kd.C_drew ?_))); (case side2 => exact HC1.out); rintro e w' ⟨rfl, ⟨nd, rfl⟩⟩) | (go_at_call 13; (with_reducible refine (laws_logSmall.calls kj5 _ _ l3 true _ ?side1 ?side2 A18.out).mono ?_); (case side1 => repeat (first | exact (Kd.C_below HR3.out (by repeat (first | (with_reducible first | exact HB.out | apply below_alloc | apply pw_below_drewN | apply below_drew1 | refine below_set ?_ GE714.out) | exact HB.out))) | (with_reducible refine Kd.C_alloc ?_ _) | (with_reducible refine Kd.C_drewN ?_ _) | (with_reducible refine Kd.C_drew ?_))); (case side2 => exact HC3.out); rintro e w' ⟨rfl, ⟨nd, rfl⟩⟩))
                    go_meet
                    case rel => exact ⟨_, (decide (a2 > (IntKind.u64.wrap ((l1.length : Int))))), (by first | rfl | (simp; done) | (simp [*]; done)), H', ⟨by have := HJ5.out; first | omega | exact Nat.le_refl _⟩, ⟨by (with_reducible repeat (first | refine blk_drewN ?_ _ | refine blk_drew ?_ | refine blk_alloc ?_ _)); exact BK714.out⟩, ⟨by repeat (first | (with_reducible first | exact HB.out | apply below_alloc | apply pw_below_drewN | apply below_drew1 | refine below_set ?_ GE714.out) | exact HB.out)⟩⟩
              · replace c19 := Bool.eq_false_iff.mpr c19
                subst c19
                have H1 : (laws_FnConsistencySound.j1 kj5 l1 a2 l3 l4 (IntKind.u64.wrap ((l1.length : Int))) true a0_0 a0_1 a0_2 a0_3 a0_4 a0_5) = some r := by rw [if_neg (show ¬ (false = true) by decide)] at H; exact H
                clear H
                have H := H1
                clear H1
                have H' := Aside0.mk H
                clear H
                have hcz28_0 : wc.cell? ⟨gb714, 0, none⟩ = some (.int .i64 a0_0) := (blk_cell BK714.out 0).trans rfl
                have hcz28_1 : wc.cell? ⟨gb714, 1, none⟩ = some (.int .i64 a0_1) := (blk_cell BK714.out 1).trans rfl
                have hcz28_2 : wc.cell? ⟨gb714, 2, none⟩ = some (.int .i64 a0_2) := (blk_cell BK714.out 2).trans rfl
                have hcz28_3 : wc.cell? ⟨gb714, 3, none⟩ = some (.int .u64 a0_3) := (blk_cell BK714.out 3).trans rfl
                have hcz28_4 : wc.cell? ⟨gb714, 4, none⟩ = some (.int .u64 a0_4) := (blk_cell BK714.out 4).trans rfl
                have hcz28_5 : wc.cell? ⟨gb714, 5, none⟩ = some (.int .u64 a0_5) := (blk_cell BK714.out 5).trans rfl
                have hfz28_0 := blk_frozen BK714.out 0
                have hfz28_1 := blk_frozen BK714.out 1
                have hfz28_2 := blk_frozen BK714.out 2
                have hfz28_3 := blk_frozen BK714.out 3
                have hfz28_4 := blk_frozen BK714.out 4
                have hfz28_5 := blk_frozen BK714.out 5
                go_wp2_with (first | ((with_reducible refine gate_callee (f := 35) rfl ?_); refine goesL_ (some 33) rfl rfl Tryd.func35 (by kernel_rfl) rfl #[.agg #[.int .i64 a0_0, .int .i64 a0_1, .int .i64 a0_2, .int .u64 a0_3, .int .u64 a0_4, .int .u64 a0_5]] rfl (by (try simp only [List.map_toArray, List.map_cons, List.map_nil]); first | done | rfl | (simp only [List.length_drop, List.length_take]; rfl)) ?_; (with_reducible refine (spec_Terms.calls a0_0 a0_1 a0_2 a0_3 a0_4 a0_5 true _ A14.out).mono ?_); rintro e w29 ⟨rfl, hb⟩; refine ⟨_, rfl, ?_⟩; have n0_ := Aside0.mk (blk_below (g := gb714) (o := .cells #[.int .i64 a0_0, .int .i64 a0_1, .int .i64 a0_2, .int .u64 a0_3, .int .u64 a0_4, .int .u64 a0_5] 24 (0, 0)) (by (with_reducible repeat (first | refine blk_drewN ?_ _ | refine blk_drew ?_ | refine blk_alloc ?_ _)); exact BK714.out) hb); have n1_ := Aside0.mk (below_step (by repeat (first | (with_reducible first | exact HB.out | apply below_alloc | apply pw_below_drewN | apply below_drew1 | refine below_set ?_ GE714.out) | exact HB.out)) hb); clear BK714; clear HB; have BK714 := n0_; have HB := n1_; clear n0_ n1_; (try clear hb); (try clear hb2); (try clear hk); (try clear hi)) | (go_at_call 13; (with_reducible refine (laws_logSmall.calls kj5 _ _ l1 true _ ?side1 ?side2 A16.out).mono ?_); (case side1 => repeat (first | exact (Kd.C_below HR1.out HB.out) | (with_reducible refine Kd.C_alloc ?_ _) | (with_reducible refine Kd.C_drewN ?_ _) | (with_reducible refine Kd.C_drew ?_))); (case side2 => exact HC1.out); rintro e w' ⟨rfl, ⟨nd, rfl⟩⟩) | (go_at_call 13; (with_reducible refine (laws_logSmall.calls kj5 _ _ l3 false _ ?side1 ?side2 A18.out).mono ?_); (case side1 => repeat (first | exact (Kd.C_below HR3.out (by repeat (first | (with_reducible first | exact HB.out | apply below_alloc | apply pw_below_drewN | apply below_drew1 | refine below_set ?_ GE714.out) | exact HB.out))) | (with_reducible refine Kd.C_alloc ?_ _) | (with_reducible refine Kd.C_drewN ?_ _) | (with_reducible refine Kd.C_drew ?_))); (case side2 => exact HC3.out); rintro e w' ⟨rfl, ⟨nd, rfl⟩⟩))
                go_meet
                case rel => exact ⟨_, (true), (by first | rfl | (simp; done) | (simp [*]; done)), H', ⟨by have := HJ5.out; first | omega | exact Nat.le_refl _⟩, ⟨by (with_reducible repeat (first | refine blk_drewN ?_ _ | refine blk_drew ?_ | refine blk_alloc ?_ _)); exact BK714.out⟩, ⟨by repeat (first | (with_reducible first | exact HB.out | apply below_alloc | apply pw_below_drewN | apply below_drew1 | refine below_set ?_ GE714.out) | exact HB.out)⟩⟩
            · replace c17 := Bool.eq_false_iff.mpr c17
              subst c17
              have H1 : (laws_FnConsistencySound.j1 kj5 l1 a2 l3 l4 (IntKind.u64.wrap ((l1.length : Int))) true a0_0 a0_1 a0_2 a0_3 a0_4 a0_5) = some r := by rw [if_neg (show ¬ (false = true) by decide)] at H; exact H
              clear H
              have H := H1
              clear H1
              have H' := Aside0.mk H
              clear H
              have hcz30_0 : wc.cell? ⟨gb714, 0, none⟩ = some (.int .i64 a0_0) := (blk_cell BK714.out 0).trans rfl
              have hcz30_1 : wc.cell? ⟨gb714, 1, none⟩ = some (.int .i64 a0_1) := (blk_cell BK714.out 1).trans rfl
              have hcz30_2 : wc.cell? ⟨gb714, 2, none⟩ = some (.int .i64 a0_2) := (blk_cell BK714.out 2).trans rfl
              have hcz30_3 : wc.cell? ⟨gb714, 3, none⟩ = some (.int .u64 a0_3) := (blk_cell BK714.out 3).trans rfl
              have hcz30_4 : wc.cell? ⟨gb714, 4, none⟩ = some (.int .u64 a0_4) := (blk_cell BK714.out 4).trans rfl
              have hcz30_5 : wc.cell? ⟨gb714, 5, none⟩ = some (.int .u64 a0_5) := (blk_cell BK714.out 5).trans rfl
              have hfz30_0 := blk_frozen BK714.out 0
              have hfz30_1 := blk_frozen BK714.out 1
              have hfz30_2 := blk_frozen BK714.out 2
              have hfz30_3 := blk_frozen BK714.out 3
              have hfz30_4 := blk_frozen BK714.out 4
              have hfz30_5 := blk_frozen BK714.out 5
              go_wp2_with (first | ((with_reducible refine gate_callee (f := 35) rfl ?_); refine goesL_ (some 33) rfl rfl Tryd.func35 (by kernel_rfl) rfl #[.agg #[.int .i64 a0_0, .int .i64 a0_1, .int .i64 a0_2, .int .u64 a0_3, .int .u64 a0_4, .int .u64 a0_5]] rfl (by (try simp only [List.map_toArray, List.map_cons, List.map_nil]); first | done | rfl | (simp only [List.length_drop, List.length_take]; rfl)) ?_; (with_reducible refine (spec_Terms.calls a0_0 a0_1 a0_2 a0_3 a0_4 a0_5 true _ A14.out).mono ?_); rintro e w31 ⟨rfl, hb⟩; refine ⟨_, rfl, ?_⟩; have n0_ := Aside0.mk (blk_below (g := gb714) (o := .cells #[.int .i64 a0_0, .int .i64 a0_1, .int .i64 a0_2, .int .u64 a0_3, .int .u64 a0_4, .int .u64 a0_5] 24 (0, 0)) (by (with_reducible repeat (first | refine blk_drewN ?_ _ | refine blk_drew ?_ | refine blk_alloc ?_ _)); exact BK714.out) hb); have n1_ := Aside0.mk (below_step (by repeat (first | (with_reducible first | exact HB.out | apply below_alloc | apply pw_below_drewN | apply below_drew1 | refine below_set ?_ GE714.out) | exact HB.out)) hb); clear BK714; clear HB; have BK714 := n0_; have HB := n1_; clear n0_ n1_; (try clear hb); (try clear hb2); (try clear hk); (try clear hi)) | (go_at_call 13; (with_reducible refine (laws_logSmall.calls kj5 _ _ l1 false _ ?side1 ?side2 A16.out).mono ?_); (case side1 => repeat (first | exact (Kd.C_below HR1.out HB.out) | (with_reducible refine Kd.C_alloc ?_ _) | (with_reducible refine Kd.C_drewN ?_ _) | (with_reducible refine Kd.C_drew ?_))); (case side2 => exact HC1.out); rintro e w' ⟨rfl, ⟨nd, rfl⟩⟩))
              go_meet
              case rel => exact ⟨_, (true), (by first | rfl | (simp; done) | (simp [*]; done)), H', ⟨by have := HJ5.out; first | omega | exact Nat.le_refl _⟩, ⟨by (with_reducible repeat (first | refine blk_drewN ?_ _ | refine blk_drew ?_ | refine blk_alloc ?_ _)); exact BK714.out⟩, ⟨by repeat (first | (with_reducible first | exact HB.out | apply below_alloc | apply pw_below_drewN | apply below_drew1 | refine below_set ?_ GE714.out) | exact HB.out)⟩⟩
          · replace c15 := Bool.eq_false_iff.mpr c15
            subst c15
            have H1 : (laws_FnConsistencySound.j1 kj5 l1 a2 l3 l4 (IntKind.u64.wrap ((l1.length : Int))) true a0_0 a0_1 a0_2 a0_3 a0_4 a0_5) = some r := by rw [if_neg (show ¬ (false = true) by decide)] at H; exact H
            clear H
            have H := H1
            clear H1
            have H' := Aside0.mk H
            clear H
            have hcz32_0 : wc.cell? ⟨gb714, 0, none⟩ = some (.int .i64 a0_0) := (blk_cell BK714.out 0).trans rfl
            have hcz32_1 : wc.cell? ⟨gb714, 1, none⟩ = some (.int .i64 a0_1) := (blk_cell BK714.out 1).trans rfl
            have hcz32_2 : wc.cell? ⟨gb714, 2, none⟩ = some (.int .i64 a0_2) := (blk_cell BK714.out 2).trans rfl
            have hcz32_3 : wc.cell? ⟨gb714, 3, none⟩ = some (.int .u64 a0_3) := (blk_cell BK714.out 3).trans rfl
            have hcz32_4 : wc.cell? ⟨gb714, 4, none⟩ = some (.int .u64 a0_4) := (blk_cell BK714.out 4).trans rfl
            have hcz32_5 : wc.cell? ⟨gb714, 5, none⟩ = some (.int .u64 a0_5) := (blk_cell BK714.out 5).trans rfl
            have hfz32_0 := blk_frozen BK714.out 0
            have hfz32_1 := blk_frozen BK714.out 1
            have hfz32_2 := blk_frozen BK714.out 2
            have hfz32_3 := blk_frozen BK714.out 3
            have hfz32_4 := blk_frozen BK714.out 4
            have hfz32_5 := blk_frozen BK714.out 5
            go_wp2_with (first | ((with_reducible refine gate_callee (f := 35) rfl ?_); refine goesL_ (some 33) rfl rfl Tryd.func35 (by kernel_rfl) rfl #[.agg #[.int .i64 a0_0, .int .i64 a0_1, .int .i64 a0_2, .int .u64 a0_3, .int .u64 a0_4, .int .u64 a0_5]] rfl (by (try simp only [List.map_toArray, List.map_cons, List.map_nil]); first | done | rfl | (simp only [List.length_drop, List.length_take]; rfl)) ?_; (with_reducible refine (spec_Terms.calls a0_0 a0_1 a0_2 a0_3 a0_4 a0_5 false _ A14.out).mono ?_); rintro e w33 ⟨rfl, hb⟩; refine ⟨_, rfl, ?_⟩; have n0_ := Aside0.mk (blk_below (g := gb714) (o := .cells #[.int .i64 a0_0, .int .i64 a0_1, .int .i64 a0_2, .int .u64 a0_3, .int .u64 a0_4, .int .u64 a0_5] 24 (0, 0)) (by (with_reducible repeat (first | refine blk_drewN ?_ _ | refine blk_drew ?_ | refine blk_alloc ?_ _)); exact BK714.out) hb); have n1_ := Aside0.mk (below_step (by repeat (first | (with_reducible first | exact HB.out | apply below_alloc | apply pw_below_drewN | apply below_drew1 | refine below_set ?_ GE714.out) | exact HB.out)) hb); clear BK714; clear HB; have BK714 := n0_; have HB := n1_; clear n0_ n1_; (try clear hb); (try clear hb2); (try clear hk); (try clear hi)))
            go_meet
            case rel => exact ⟨_, (true), (by first | rfl | (simp; done) | (simp [*]; done)), H', ⟨by have := HJ5.out; first | omega | exact Nat.le_refl _⟩, ⟨by (with_reducible repeat (first | refine blk_drewN ?_ _ | refine blk_drew ?_ | refine blk_alloc ?_ _)); exact BK714.out⟩, ⟨by repeat (first | (with_reducible first | exact HB.out | apply below_alloc | apply pw_below_drewN | apply below_drew1 | refine below_set ?_ GE714.out) | exact HB.out)⟩⟩
        case rest =>
          clear HC13
          try clear c1
          try clear c2
          try clear p2
          try clear c3
          try clear c4
          try clear c8
          try clear c9
          try clear c11
          try clear c12
          try clear c15
          try clear c17
          try clear c19
          try clear c20
          try clear c20b0
          try clear c20b1
          try clear c23
          try clear c23b0
          try clear c23b1
          try clear hcz21_0
          try clear hcz21_1
          try clear hcz21_2
          try clear hcz21_3
          try clear hcz21_4
          try clear hcz21_5
          try clear hcz24_0
          try clear hcz24_1
          try clear hcz24_2
          try clear hcz24_3
          try clear hcz24_4
          try clear hcz24_5
          try clear hcz26_0
          try clear hcz26_1
          try clear hcz26_2
          try clear hcz26_3
          try clear hcz26_4
          try clear hcz26_5
          try clear hcz28_0
          try clear hcz28_1
          try clear hcz28_2
          try clear hcz28_3
          try clear hcz28_4
          try clear hcz28_5
          try clear hcz30_0
          try clear hcz30_1
          try clear hcz30_2
          try clear hcz30_3
          try clear hcz30_4
          try clear hcz30_5
          try clear hcz32_0
          try clear hcz32_1
          try clear hcz32_2
          try clear hcz32_3
          try clear hcz32_4
          try clear hcz32_5
          try clear hfz21_0
          try clear hfz21_1
          try clear hfz21_2
          try clear hfz21_3
          try clear hfz21_4
          try clear hfz21_5
          try clear hfz24_0
          try clear hfz24_1
          try clear hfz24_2
          try clear hfz24_3
          try clear hfz24_4
          try clear hfz24_5
          try clear hfz26_0
          try clear hfz26_1
          try clear hfz26_2
          try clear hfz26_3
          try clear hfz26_4
          try clear hfz26_5
          try clear hfz28_0
          try clear hfz28_1
          try clear hfz28_2
          try clear hfz28_3
          try clear hfz28_4
          try clear hfz28_5
          try clear hfz30_0
          try clear hfz30_1
          try clear hfz30_2
          try clear hfz30_3
          try clear hfz30_4
          try clear hfz30_5
          try clear hfz32_0
          try clear hfz32_1
          try clear hfz32_2
          try clear hfz32_3
          try clear hfz32_4
          try clear hfz32_5
          try clear p2
          obtain ⟨kq, x58_12, rfl, HA, HJ12, BK714, HB⟩ := hcut
          cases kq with
          | zero => exact absurd HA.out (by simp [laws_FnConsistencySound.j1])
          | succ kj12 =>
            have H := HA.out
            clear HA
            simp only [laws_FnConsistencySound.j1] at H
            by_cases c34 : x58_12 = true
            · subst c34
              have H1 : (some true) = some r := by rw [if_pos rfl] at H; exact H
              clear H
              have H := H1
              clear H1
              obtain rfl := Option.some.inj H
              go_wp2
              go_ret
              exact ⟨by first | rfl | (simp [errW_none, errW_some] <;> rfl) | (simp [*, errW_none, errW_some] <;> rfl), by repeat (first | (with_reducible first | exact HB.out | apply below_alloc | apply pw_below_drewN | apply below_drew1 | refine below_set ?_ GE714.out) | exact HB.out)⟩
            · replace c34 := Bool.eq_false_iff.mpr c34
              subst c34
              have H1 : ((impl_TreeRoot.f kj12 a0_0 a0_1 a0_2 a0_3 a0_4 a0_5 l1 (IntKind.u64.wrap ((l1.length : Int)))).bind fun bt720 => ((impl_VerifyConsistency.f kj12 a0_0 a0_1 a0_2 a0_3 a0_4 a0_5 a2 (IntKind.u64.wrap ((l1.length : Int))) l3 l4 bt720.1).bind fun bt724 => (if bt720.2 = true then (if 0 ≤ a2 then (if a2 ≤ (l1.length : Int) then ((spec_Root.f kj12 a0_0 a0_1 a0_2 a0_3 a0_4 a0_5 (l1.take (a2 : Int).toNat)).bind fun t732 => ((spec_SameText.f l4 t732).bind fun t735 => (if t735 = true then ((spec_Proof.f kj12 a0_0 a0_1 a0_2 a0_3 a0_4 a0_5 l1 a2).bind fun t736 => ((spec_Same.f kj12 l3 t736).bind fun t739 => (some ((bt724.1 == 0) == t739)))) else (some ((bt724.1 == 0) == false))))) else (none)) else (none)) else (none)))) = some r := by rw [if_neg (show ¬ (false = true) by decide)] at H; exact H
              clear H
              have H := H1
              clear H1
              replace H := Option.bind_eq_some_iff.mp H
              obtain ⟨⟨t720, t723⟩, A350, H⟩ := H
              replace H : ((impl_VerifyConsistency.f kj12 a0_0 a0_1 a0_2 a0_3 a0_4 a0_5 a2 (IntKind.u64.wrap ((l1.length : Int))) l3 l4 t720).bind fun bt724 => (if t723 = true then (if 0 ≤ a2 then (if a2 ≤ (l1.length : Int) then ((spec_Root.f kj12 a0_0 a0_1 a0_2 a0_3 a0_4 a0_5 (l1.take (a2 : Int).toNat)).bind fun t732 => ((spec_SameText.f l4 t732).bind fun t735 => (if t735 = true then ((spec_Proof.f kj12 a0_0 a0_1 a0_2 a0_3 a0_4 a0_5 l1 a2).bind fun t736 => ((spec_Same.f kj12 l3 t736).bind fun t739 => (some ((bt724.1 == 0) == t739)))) else (some ((bt724.1 == 0) == false))))) else (none)) else (none)) else (none))) = some r := H
              have A35 := Aside0.mk A350
              clear A350
              replace H := Option.bind_eq_some_iff.mp H
              obtain ⟨⟨t724, t725⟩, A360, H⟩ := H
              replace H : (if t723 = true then (if 0 ≤ a2 then (if a2 ≤ (l1.length : Int) then ((spec_Root.f kj12 a0_0 a0_1 a0_2 a0_3 a0_4 a0_5 (l1.take (a2 : Int).toNat)).bind fun t732 => ((spec_SameText.f l4 t732).bind fun t735 => (if t735 = true then ((spec_Proof.f kj12 a0_0 a0_1 a0_2 a0_3 a0_4 a0_5 l1 a2).bind fun t736 => ((spec_Same.f kj12 l3 t736).bind fun t739 => (some ((t724 == 0) == t739)))) else (some ((t724 == 0) == false))))) else (none)) else (none)) else (none)) = some r := H
              have A36 := Aside0.mk A360
              clear A360
              by_cases c37 : t723 = true
              · subst c37
                have H1 : (if 0 ≤ a2 then (if a2 ≤ (l1.length : Int) then ((spec_Root.f kj12 a0_0 a0_1 a0_2 a0_3 a0_4 a0_5 (l1.take (a2 : Int).toNat)).bind fun t732 => ((spec_SameText.f l4 t732).bind fun t735 => (if t735 = true then ((spec_Proof.f kj12 a0_0 a0_1 a0_2 a0_3 a0_4 a0_5 l1 a2).bind fun t736 => ((spec_Same.f kj12 l3 t736).bind fun t739 => (some ((t724 == 0) == t739)))) else (some ((t724 == 0) == false))))) else (none)) else (none)) = some r := by rw [if_pos rfl] at H; exact H
                clear H
                have H := H1
                clear H1
                by_cases c38 : 0 ≤ a2
                · rw [if_pos c38] at H
                  have c38b0 := eq_true c38
                  have c38b1 : decide (0 ≤ a2) = true := decide_eq_true c38
                  clear c38
                  by_cases c39 : a2 ≤ (l1.length : Int)
                  · rw [if_pos c39] at H
                    have c39b0 := eq_true c39
                    have c39b1 : decide (a2 ≤ (l1.length : Int)) = true := decide_eq_true c39
                    clear c39
                    obtain ⟨y728, hy728⟩ : ∃ y_ : List (List Int), y_ = (l1.take (a2 : Int).toNat) := ⟨_, rfl⟩
                    replace H : ((spec_Root.f kj12 a0_0 a0_1 a0_2 a0_3 a0_4 a0_5 y728).bind fun t732 => ((spec_SameText.f l4 t732).bind fun t735 => (if t735 = true then ((spec_Proof.f kj12 a0_0 a0_1 a0_2 a0_3 a0_4 a0_5 l1 a2).bind fun t736 => ((spec_Same.f kj12 l3 t736).bind fun t739 => (some ((t724 == 0) == t739)))) else (some ((t724 == 0) == false))))) = some r := by first | (rw [hy728]; with_reducible exact H) | (have H2_ := (Option.bind_some _ _).symm.trans H; rw [hy728]; with_reducible exact H2_) | (have H2_ := (Option.bind_some _ _).symm.trans H; with_reducible exact H2_) | with_reducible exact H | (rw [hy728]; exact H) | exact H
                    have Ny728 := Aside0.mk hy728
                    clear hy728
                    replace H := Option.bind_eq_some_iff.mp H
                    obtain ⟨t732, A400, H⟩ := H
                    replace H : ((spec_SameText.f l4 t732).bind fun t735 => (if t735 = true then ((spec_Proof.f kj12 a0_0 a0_1 a0_2 a0_3 a0_4 a0_5 l1 a2).bind fun t736 => ((spec_Same.f kj12 l3 t736).bind fun t739 => (some ((t724 == 0) == t739)))) else (some ((t724 == 0) == false)))) = some r := H
                    have A40 := Aside0.mk A400
                    clear A400
                    replace H := Option.bind_eq_some_iff.mp H
                    obtain ⟨t735, A410, H⟩ := H
                    replace H : (if t735 = true then ((spec_Proof.f kj12 a0_0 a0_1 a0_2 a0_3 a0_4 a0_5 l1 a2).bind fun t736 => ((spec_Same.f kj12 l3 t736).bind fun t739 => (some ((t724 == 0) == t739)))) else (some ((t724 == 0) == false))) = some r := H
                    have A41 := Aside0.mk A410
                    clear A410
                    by_cases c42 : t735 = true
                    · subst c42
                      have H1 : ((spec_Proof.f kj12 a0_0 a0_1 a0_2 a0_3 a0_4 a0_5 l1 a2).bind fun t736 => ((spec_Same.f kj12 l3 t736).bind fun t739 => (some ((t724 == 0) == t739)))) = some r := by rw [if_pos rfl] at H; exact H
                      clear H
                      have H := H1
                      clear H1
                      replace H := Option.bind_eq_some_iff.mp H
                      obtain ⟨t736, A430, H⟩ := H
                      replace H : ((spec_Same.f kj12 l3 t736).bind fun t739 => (some ((t724 == 0) == t739))) = some r := H
                      have A43 := Aside0.mk A430
                      clear A430
                      replace H := Option.bind_eq_some_iff.mp H
                      obtain ⟨t739, A440, H⟩ := H
                      replace H : (some ((t724 == 0) == t739)) = some r := H
                      have A44 := Aside0.mk A440
                      clear A440
                      obtain rfl := Option.some.inj H
                      have hcz45_0 : wc.cell? ⟨gb714, 0, none⟩ = some (.int .i64 a0_0) := (blk_cell BK714.out 0).trans rfl
                      have hcz45_1 : wc.cell? ⟨gb714, 1, none⟩ = some (.int .i64 a0_1) := (blk_cell BK714.out 1).trans rfl
                      have hcz45_2 : wc.cell? ⟨gb714, 2, none⟩ = some (.int .i64 a0_2) := (blk_cell BK714.out 2).trans rfl
                      have hcz45_3 : wc.cell? ⟨gb714, 3, none⟩ = some (.int .u64 a0_3) := (blk_cell BK714.out 3).trans rfl
                      have hcz45_4 : wc.cell? ⟨gb714, 4, none⟩ = some (.int .u64 a0_4) := (blk_cell BK714.out 4).trans rfl
                      have hcz45_5 : wc.cell? ⟨gb714, 5, none⟩ = some (.int .u64 a0_5) := (blk_cell BK714.out 5).trans rfl
                      have hfz45_0 := blk_frozen BK714.out 0
                      have hfz45_1 := blk_frozen BK714.out 1
                      have hfz45_2 := blk_frozen BK714.out 2
                      have hfz45_3 := blk_frozen BK714.out 3
                      have hfz45_4 := blk_frozen BK714.out 4
                      have hfz45_5 := blk_frozen BK714.out 5
                      try go_wp2_with (first | ((with_reducible refine gate_callee (f := 14) rfl ?_); refine goesL_ (some 63) rfl rfl Tryd.func14 (by kernel_rfl) rfl #[.agg #[.int .i64 a0_0, .int .i64 a0_1, .int .i64 a0_2, .int .u64 a0_3, .int .u64 a0_4, .int .u64 a0_5], .slice A1 l1.length c1, .int .u64 (IntKind.u64.wrap ((l1.length : Int)))] rfl (by (try simp only [List.map_toArray, List.map_cons, List.map_nil]); first | done | rfl | (simp only [List.length_drop, List.length_take]; rfl)) ?_; (with_reducible refine (impl_TreeRoot.calls kj12 a0_0 a0_1 a0_2 a0_3 a0_4 a0_5 _ _ l1 (IntKind.u64.wrap ((l1.length : Int))) t720 true _ ?side3 ?side1 ?side2 A35.out).mono ?_); (case side1 => repeat (first | exact (Kd.C_below HR1.out HB.out) | (with_reducible refine Kd.C_alloc ?_ _) | (with_reducible refine Kd.C_drewN ?_ _) | (with_reducible refine Kd.C_drew ?_))); (case side2 => exact HC1.out); (case side3 => exact Glob.below hG (by repeat (first | (with_reducible first | exact HB.out | apply below_alloc | apply pw_below_drewN | apply below_drew1 | refine below_set ?_ GE714.out) | exact HB.out))); rintro e w46 ⟨v721, rfl, ho0, hb⟩; refine ⟨_, rfl, ?_⟩; have n0_ := Aside0.mk (Kd.R_lower ho0 (below_size (by repeat (first | (with_reducible first | exact HB.out | apply below_alloc | apply pw_below_drewN | apply below_drew1 | refine below_set ?_ GE714.out) | exact HB.out)))); have n1_ := Aside0.mk (blk_below (g := gb714) (o := .cells #[.int .i64 a0_0, .int .i64 a0_1, .int .i64 a0_2, .int .u64 a0_3, .int .u64 a0_4, .int .u64 a0_5] 24 (0, 0)) (by (with_reducible repeat (first | refine blk_drewN ?_ _ | refine blk_drew ?_ | refine blk_alloc ?_ _)); exact BK714.out) hb); have n2_ := Aside0.mk (below_step (by repeat (first | (with_reducible first | exact HB.out | apply below_alloc | apply pw_below_drewN | apply below_drew1 | refine below_set ?_ GE714.out) | exact HB.out)) hb); clear BK714; clear HB; have HO722 := n0_; have BK714 := n1_; have HB := n2_; clear n0_ n1_ n2_; (try clear hb); (try clear hb2); (try clear hk); (try clear hi); (try clear ho0); have hcz47_0 : w46.cell? ⟨gb714, 0, none⟩ = some (.int .i64 a0_0) := (blk_cell BK714.out 0).trans rfl; have hcz47_1 : w46.cell? ⟨gb714, 1, none⟩ = some (.int .i64 a0_1) := (blk_cell BK714.out 1).trans rfl; have hcz47_2 : w46.cell? ⟨gb714, 2, none⟩ = some (.int .i64 a0_2) := (blk_cell BK714.out 2).trans rfl; have hcz47_3 : w46.cell? ⟨gb714, 3, none⟩ = some (.int .u64 a0_3) := (blk_cell BK714.out 3).trans rfl; have hcz47_4 : w46.cell? ⟨gb714, 4, none⟩ = some (.int .u64 a0_4) := (blk_cell BK714.out 4).trans rfl; have hcz47_5 : w46.cell? ⟨gb714, 5, none⟩ = some (.int .u64 a0_5) := (blk_cell BK714.out 5).trans rfl; have hfz47_0 := blk_frozen BK714.out 0; have hfz47_1 := blk_frozen BK714.out 1; have hfz47_2 := blk_frozen BK714.out 2; have hfz47_3 := blk_frozen BK714.out 3; have hfz47_4 := blk_frozen BK714.out 4; have hfz47_5 := blk_frozen BK714.out 5; obtain ⟨Ao48, co48, eo48⟩ := Kd.R_slice HO722.out; subst eo48) | ((with_reducible refine gate_callee (f := 36) rfl ?_); refine goesL_ (some 73) rfl rfl Tryd.func36 (by kernel_rfl) rfl #[.agg #[.int .i64 a0_0, .int .i64 a0_1, .int .i64 a0_2, .int .u64 a0_3, .int .u64 a0_4, .int .u64 a0_5], .int .u64 a2, .int .u64 (IntKind.u64.wrap ((l1.length : Int))), .slice A3 l3.length c3, .slice A4 l4.length c4, .slice Ao48 t720.length co48] rfl (by (try simp only [List.map_toArray, List.map_cons, List.map_nil]); first | done | rfl | (simp only [List.length_drop, List.length_take]; rfl)) ?_; (with_reducible refine (impl_VerifyConsistency.calls kj12 a0_0 a0_1 a0_2 a0_3 a0_4 a0_5 a2 (IntKind.u64.wrap ((l1.length : Int))) _ _ l3 _ _ l4 _ _ t720 t724 t725 _ ?side7 ?side1 ?side2 ?side3 ?side4 ?side5 ?side6 A36.out).mono ?_); (case side1 => repeat (first | exact (Kd.C_below HR3.out HB.out) | (with_reducible refine Kd.C_alloc ?_ _) | (with_reducible refine Kd.C_drewN ?_ _) | (with_reducible refine Kd.C_drew ?_))); (case side2 => exact HC3.out); (case side3 => repeat (first | exact (Kd.C_below HR4.out HB.out) | (with_reducible refine Kd.C_alloc ?_ _) | (with_reducible refine Kd.C_drewN ?_ _) | (with_reducible refine Kd.C_drew ?_))); (case side4 => exact HC4.out); (case side5 => repeat (first | exact (Kd.R_reads' HO722.out).2.2 | (with_reducible refine Kd.C_alloc ?_ _) | (with_reducible refine Kd.C_drewN ?_ _) | (with_reducible refine Kd.C_drew ?_))); (case side6 => exact (Kd.R_reads' HO722.out).2.1); (case side7 => exact Glob.below hG (by repeat (first | (with_reducible first | exact HB.out | apply below_alloc | apply pw_below_drewN | apply below_drew1 | refine below_set ?_ GE714.out) | exact HB.out))); rintro e w49 ⟨v726, rfl, ho0, hb⟩; refine ⟨_, rfl, ?_⟩; have n0_ := Aside0.mk (Kd.R_elder' (by (with_reducible repeat (first | apply Kd.R_alloc | apply Kd.R_drewN | apply Kd.R_drew)); exact HO722.out) (Kd.R_base ho0) hb); have n1_ := Aside0.mk (Kd.R_lower (Kd.R_new' ho0 (Kd.R_lt (by (with_reducible repeat (first | apply Kd.R_alloc | apply Kd.R_drewN | apply Kd.R_drew)); exact HO722.out))) (below_size (by repeat (first | (with_reducible first | exact HB.out | apply below_alloc | apply pw_below_drewN | apply below_drew1 | refine below_set ?_ GE714.out) | exact HB.out)))); have n2_ := Aside0.mk (blk_below (g := gb714) (o := .cells #[.int .i64 a0_0, .int .i64 a0_1, .int .i64 a0_2, .int .u64 a0_3, .int .u64 a0_4, .int .u64 a0_5] 24 (0, 0)) (by (with_reducible repeat (first | refine blk_drewN ?_ _ | refine blk_drew ?_ | refine blk_alloc ?_ _)); exact BK714.out) hb); have n3_ := Aside0.mk (below_step (by repeat (first | (with_reducible first | exact HB.out | apply below_alloc | apply pw_below_drewN | apply below_drew1 | refine below_set ?_ GE714.out) | exact HB.out)) hb); clear HO722; clear BK714; clear HB; have HO722 := n0_; have HO727 := n1_; have BK714 := n2_; have HB := n3_; clear n0_ n1_ n2_ n3_; (try clear hb); (try clear hb2); (try clear hk); (try clear hi); (try clear ho0)))
                      (try (rw [drewN_self w49]; generalize hq_ : World.drewN w49 _ = w49; have n0_ : Aside0 (Kd.R (Kd.int .u8) 5 w49 w.heap.size (fun k_ => some k_ ≠ (v726 : Value).ownBlock) (.slice Ao48 t720.length co48) t720) := ⟨by rw [← hq_]; exact (by (with_reducible repeat (first | apply Kd.R_alloc | apply Kd.R_drewN | apply Kd.R_drew)); exact Kd.R_mono HO722.out (fun _ hk => hk.2))⟩; have n1_ : Aside0 (Kd.R (Kd.int .u8) 5 w49 w.heap.size (fun k_ => some k_ ≠ (.slice Ao48 t720.length co48 : Value).ownBlock) v726 t725) := ⟨by rw [← hq_]; exact (by (with_reducible repeat (first | apply Kd.R_alloc | apply Kd.R_drewN | apply Kd.R_drew)); exact Kd.R_mono HO727.out (fun _ hk => hk.2))⟩; have n2_ : Aside0 (w49.heap[gb714]? = some (.cells #[.int .i64 a0_0, .int .i64 a0_1, .int .i64 a0_2, .int .u64 a0_3, .int .u64 a0_4, .int .u64 a0_5] 24 (0, 0))) := ⟨by rw [← hq_]; exact (by (with_reducible repeat (first | refine blk_drewN ?_ _ | refine blk_drew ?_ | refine blk_alloc ?_ _)); exact BK714.out)⟩; have n3_ : Aside0 (Below w.heap.size w w49) := ⟨by rw [← hq_]; exact (by repeat (first | (with_reducible first | exact HB.out | apply below_alloc | apply pw_below_drewN | apply below_drew1 | refine below_set ?_ GE714.out) | exact HB.out))⟩; clear HO722 HO727 BK714 HB hq_; have HO722 := n0_; have HO727 := n1_; have BK714 := n2_; have HB := n3_; clear n0_ n1_ n2_ n3_))
                      have n0_ := Aside0.mk (Kd.R_drew HO722.out)
                      have n1_ := Aside0.mk (Kd.R_drew HO727.out)
                      have n2_ := Aside0.mk (blk_drew BK714.out)
                      have n3_ := Aside0.mk (below_drew1 HB.out)
                      clear HO722
                      clear HO727
                      clear BK714
                      clear HB
                      have HO722 := n0_
                      have HO727 := n1_
                      have BK714 := n2_
                      have HB := n3_
                      clear n0_ n1_ n2_ n3_
                      have q51 : (a2 : Int) ≤ ((l1.length : Int) : Int) := of_decide_eq_true (by first | (with_reducible assumption) | assumption)
                      obtain ⟨i051, hi051, _, hsz51, _⟩ := info_parts info27
                      have hroom51 : l1.length ≤ c1 := HC1.out
                      have hC51 : Kd.C (Kd.slice 5 (Kd.int .u8)) _ A1 l1.length l1 := HR1.out
                      have hcut51 := cut_to (P := Tryd.prog) 25 27 .i64 Tryd.underlying25 hi051 A1 l1.length c1 a2 (of_decide_eq_true (by first | (with_reducible assumption) | assumption)) q51 hroom51
                      have hcut51u := cut_to (P := Tryd.prog) 25 27 .u64 Tryd.underlying25 hi051 A1 l1.length c1 a2 (of_decide_eq_true (by first | (with_reducible assumption) | assumption)) q51 hroom51
                      have hr51 := Kd.C_take (m := (a2 : Int).toNat) hC51 (by omega)
                      have hy51 : y728.length = (a2 : Int).toNat := (by rw [Ny728.out, List.length_take]; omega)
                      rw [← Ny728.out] at hr51
                      rw [← hy51] at hcut51 hcut51u
                      have HR731 := Aside0.mk hr51
                      have HC731 := Aside0.mk (show y728.length ≤ c1 from by omega)
                      clear hr51 hC51 hroom51 hi051 hsz51
                      have KY51 := Aside0.mk hy51
                      clear hy51
                      replace q51 := eq_true q51
                      refine start_ (n := 22) (S := fun w' => w'.cell? ⟨gb714, 0, none⟩ = some (.int .i64 a0_0) ∧ w'.cell? ⟨gb714, 1, none⟩ = some (.int .i64 a0_1) ∧ w'.cell? ⟨gb714, 2, none⟩ = some (.int .i64 a0_2) ∧ w'.cell? ⟨gb714, 3, none⟩ = some (.int .u64 a0_3) ∧ w'.cell? ⟨gb714, 4, none⟩ = some (.int .u64 a0_4) ∧ w'.cell? ⟨gb714, 5, none⟩ = some (.int .u64 a0_5)) (ds := []) #[false, false, false, false, false, false, false, false, false, false, false, false, false, false, false, false, false, false, false, false, false, false] (by kernel_rfl) rfl rfl ⟨(blk_cell BK714.out 0).trans rfl, (blk_cell BK714.out 1).trans rfl, (blk_cell BK714.out 2).trans rfl, (blk_cell BK714.out 3).trans rfl, (blk_cell BK714.out 4).trans rfl, (blk_cell BK714.out 5).trans rfl⟩ (fun hHeld => ?_); refine with_tabW laws_FnConsistencySound.tab8 laws_FnConsistencySound.bits8 (fun HT_ HW_ => ?_)
                      generalize w49.drew = w50 at HO722 HO727 BK714 HB HR731 hHeld ⊢
                      refine pure_ (i := 0) (N := some 76) (v := ?_) (a' := ?_) #[true, false, false, false, false, false, false, false, false, false, false, false, false, false, false, false, false, false, false, false, false, false] rfl rfl (any_of HT_.out (by kernel_rfl)) (fun _ _ _ h => h) (Or.inl ⟨by rfl, ?_⟩) ?_ ?_
                      rotate_left
                      · intro w'
                        go_simp
                        with_reducible rfl
                      rotate_left
                      · simp only [Act.put, List.setIfInBounds_toArray, List.set_cons_zero, List.set_cons_succ, i64_w, i32_w]
                        rfl
                      refine pure_ (i := 1) (N := some 77) (v := ?_) (a' := ?_) #[true, true, false, false, false, false, false, false, false, false, false, false, false, false, false, false, false, false, false, false, false, false] rfl rfl (any_of HT_.out (by kernel_rfl)) (fun _ _ _ h => h) (Or.inl ⟨by rfl, ?_⟩) ?_ ?_
                      rotate_left
                      · intro w'
                        go_simp
                        with_reducible rfl
                      rotate_left
                      · simp only [Act.put, List.setIfInBounds_toArray, List.set_cons_zero, List.set_cons_succ, i64_w, i32_w]
                        rfl
                      refine pure_ (i := 2) (N := some 78) (v := ?_) (a' := ?_) #[true, true, true, false, false, false, false, false, false, false, false, false, false, false, false, false, false, false, false, false, false, false] rfl rfl (any_of HT_.out (by kernel_rfl)) (fun _ _ _ h => h) (Or.inl ⟨by rfl, ?_⟩) ?_ ?_
                      rotate_left
                      · intro w'
                        go_simp
                        with_reducible rfl
                      rotate_left
                      · simp only [Act.put, List.setIfInBounds_toArray, List.set_cons_zero, List.set_cons_succ, i64_w, i32_w]
                        rfl
                      refine pure_ (i := 3) (N := some 79) (v := ?_) (a' := ?_) #[true, true, true, true, false, false, false, false, false, false, false, false, false, false, false, false, false, false, false, false, false, false] rfl rfl (any_of HT_.out (by kernel_rfl)) (fun _ _ _ h => h) (Or.inl ⟨by rfl, ?_⟩) ?_ ?_
                      rotate_left
                      · intro w'
                        go_simp
                        with_reducible rfl
                      rotate_left
                      · simp only [Act.put, List.setIfInBounds_toArray, List.set_cons_zero, List.set_cons_succ, i64_w, i32_w]
                        rfl
                      refine pure_ (i := 4) (N := some 80) (v := ?_) (a' := ?_) #[true, true, true, true, true, false, false, false, false, false, false, false, false, false, false, false, false, false, false, false, false, false] rfl rfl (any_of HT_.out (by kernel_rfl)) (fun _ _ _ h => h) (Or.inl ⟨by rfl, ?_⟩) ?_ ?_
                      rotate_left
                      · intro w'
                        go_simp
                        with_reducible rfl
                      rotate_left
                      · simp only [Act.put, List.setIfInBounds_toArray, List.set_cons_zero, List.set_cons_succ, i64_w, i32_w]
                        rfl
                      refine pure_ (i := 6) (N := some 82) (v := ?_) (a' := ?_) #[true, true, true, true, true, false, true, false, false, false, false, false, false, false, false, false, false, false, false, false, false, false] rfl rfl (any_of HT_.out (by kernel_rfl)) (fun _ _ _ h => h) (Or.inl ⟨by rfl, ?_⟩) ?_ ?_
                      rotate_left
                      · intro w'
                        go_simp
                        with_reducible rfl
                      rotate_left
                      · simp only [Act.put, List.setIfInBounds_toArray, List.set_cons_zero, List.set_cons_succ, i64_w, i32_w]
                        rfl
                      refine pure_ (i := 7) (N := some 83) (v := ?_) (a' := ?_) #[true, true, true, true, true, false, true, true, false, false, false, false, false, false, false, false, false, false, false, false, false, false] rfl rfl (any_of HT_.out (by kernel_rfl)) (fun _ _ _ h => h) (Or.inl ⟨by rfl, ?_⟩) ?_ ?_
                      rotate_left
                      · intro w'
                        go_simp
                        with_reducible rfl
                      rotate_left
                      · simp only [Act.put, List.setIfInBounds_toArray, List.set_cons_zero, List.set_cons_succ, i64_w, i32_w]
                        rfl
                      refine pure_ (i := 8) (N := some 84) (v := ?_) (a' := ?_) #[true, true, true, true, true, false, true, true, true, false, false, false, false, false, false, false, false, false, false, false, false, false] rfl rfl (any_of HT_.out (by kernel_rfl)) (fun _ _ _ h => h) (Or.inl ⟨by rfl, ?_⟩) ?_ ?_
                      rotate_left
                      · intro w'
                        go_simp
                        with_reducible rfl
                      rotate_left
                      · simp only [Act.put, List.setIfInBounds_toArray, List.set_cons_zero, List.set_cons_succ, i64_w, i32_w]
                        rfl
                      refine take_ (i := 5) (N := some 81) (v := ?_) (a' := ?_) #[true, true, true, true, true, true, true, true, true, false, false, false, false, false, false, false, false, false, false, false, false, false] rfl rfl (take_ofW HT_.out HW_.out (by kernel_rfl)) (fun _ _ _ h => h) (Or.inl ⟨by rfl, ?_⟩) hHeld ?_ ?_
                      rotate_left
                      · rintro w' ⟨s0, s1, s2, s3, s4, s5⟩
                        go_simp
                        with_reducible rfl
                      rotate_left
                      · simp only [Act.put, List.setIfInBounds_toArray, List.set_cons_zero, List.set_cons_succ, i64_w, i32_w]
                        rfl
                      refine one_ (i := 9) (N := some 85) #[true, true, true, true, true, true, true, true, true, true, false, false, false, false, false, false, false, false, false, false, false, false] rfl rfl (one_of HT_.out (by kernel_rfl)) (by decide) (fun K hK => ?_)
                      refine goes_ Tryd.func16 (by kernel_rfl) rfl #[.agg #[.int .i64 a0_0, .int .i64 a0_1, .int .i64 a0_2, .int .u64 a0_3, .int .u64 a0_4, .int .u64 a0_5], .slice A1 y728.length c1] (by rfl) rfl rfl (by (try simp only [List.map_toArray, List.map_cons, List.map_nil]); first | done | rfl | (simp only [List.length_drop, List.length_take]; rfl)) ?_
                      with_reducible refine (spec_Root.calls kj12 a0_0 a0_1 a0_2 a0_3 a0_4 a0_5 (fun k_ => k_ < w.heap.size) _ _ y728 t732 _ ?side1 A40.out).mono ?_
                      (case side1 => exact Kd.V_mk HC731.out (Kd.F_below (Kd.C_F (Kd.heap_slice 5 (Kd.heap_int .u8)) HR731.out) (by repeat (first | (with_reducible first | exact HB.out | apply below_alloc | apply pw_below_drewN | apply below_drew1 | refine below_set ?_ GE714.out) | exact HB.out))))
                      rintro e w52 ⟨v733, rfl, ho0, hb⟩
                      refine ⟨_, rfl, ?_⟩
                      have n0_ := Aside0.mk (Kd.R_below (by (with_reducible repeat (first | apply Kd.R_alloc | apply Kd.R_drewN | apply Kd.R_drew)); exact HO722.out) hb)
                      have n1_ := Aside0.mk (Kd.R_below (by (with_reducible repeat (first | apply Kd.R_alloc | apply Kd.R_drewN | apply Kd.R_drew)); exact HO727.out) hb)
                      have n2_ := Aside0.mk (Kd.V_lower (Kd.V_mono (ok' := fun k_ => some k_ ≠ (.slice Ao48 t720.length co48 : Value).ownBlock ∧ some k_ ≠ (v726 : Value).ownBlock ∧ k_ ≠ gb714) ho0 (fun k_ hk_ => ⟨Or.elim hk_ (fun hs_ => fun e_ => Nat.not_le.2 hs_ (Kd.R_base HO722.out k_ e_.symm)) (fun hn_ => (Kd.fresh' (Kd.R_lt (by (with_reducible repeat (first | apply Kd.R_alloc | apply Kd.R_drewN | apply Kd.R_drew)); exact HO722.out)) k_ hn_)), Or.elim hk_ (fun hs_ => fun e_ => Nat.not_le.2 hs_ (Kd.R_base HO727.out k_ e_.symm)) (fun hn_ => (Kd.fresh' (Kd.R_lt (by (with_reducible repeat (first | apply Kd.R_alloc | apply Kd.R_drewN | apply Kd.R_drew)); exact HO727.out)) k_ hn_)), Or.elim hk_ (fun hs_ => fun e_ => Nat.not_le.2 hs_ (by rw [e_]; exact GW714.out)) (fun hn_ => (Kd.freshB (g := gb714) (o := .cells #[.int .i64 a0_0, .int .i64 a0_1, .int .i64 a0_2, .int .u64 a0_3, .int .u64 a0_4, .int .u64 a0_5] 24 (0, 0)) (by (with_reducible repeat (first | refine blk_drewN ?_ _ | refine blk_drew ?_ | refine blk_alloc ?_ _)); exact BK714.out) k_ hn_))⟩)) (below_size (by repeat (first | (with_reducible first | exact HB.out | apply below_alloc | apply pw_below_drewN | apply below_drew1 | refine below_set ?_ GE714.out) | exact HB.out))))
                      have n3_ := Aside0.mk (blk_below (g := gb714) (o := .cells #[.int .i64 a0_0, .int .i64 a0_1, .int .i64 a0_2, .int .u64 a0_3, .int .u64 a0_4, .int .u64 a0_5] 24 (0, 0)) (by (with_reducible repeat (first | refine blk_drewN ?_ _ | refine blk_drew ?_ | refine blk_alloc ?_ _)); exact BK714.out) hb)
                      have n4_ := Aside0.mk (below_step (by repeat (first | (with_reducible first | exact HB.out | apply below_alloc | apply pw_below_drewN | apply below_drew1 | refine below_set ?_ GE714.out) | exact HB.out)) hb)
                      clear HO722
                      clear HO727
                      clear BK714
                      clear HB
                      have HO722 := n0_
                      have HO727 := n1_
                      have HO734 := n2_
                      have BK714 := n3_
                      have HB := n4_
                      clear n0_ n1_ n2_ n3_ n4_
                      (try clear hb)
                      (try clear hb2)
                      (try clear hk)
                      (try clear hi)
                      (try clear ho0)
                      obtain ⟨Ao53, co53, eo53⟩ := Kd.V_slice HO734.out
                      (first | subst eo53 | (injection eo53 with f1_ f2_ f3_; have f4_ := f1_.symm; have f5_ := f3_.symm; clear f1_ f2_ f3_; subst f4_; subst f5_))
                      refine hK.out _ _ ⟨(blk_cell BK714.out 0).trans rfl, (blk_cell BK714.out 1).trans rfl, (blk_cell BK714.out 2).trans rfl, (blk_cell BK714.out 3).trans rfl, (blk_cell BK714.out 4).trans rfl, (blk_cell BK714.out 5).trans rfl⟩ (fun hHeld => ?_)
                      clear hK K
                      refine norm_ (a' := ?_) ?_ ?_
                      rotate_left
                      · show Act.put _ (some 85) _ = _
                        simp only [Act.put, List.setIfInBounds_toArray, List.set_cons_zero, List.set_cons_succ, i64_w, i32_w]
                        rfl
                      refine one_ (i := 10) (N := some 86) #[true, true, true, true, true, true, true, true, true, true, true, false, false, false, false, false, false, false, false, false, false, false] rfl rfl (one_of HT_.out (by kernel_rfl)) (by decide) (fun K hK => ?_)
                      refine goes_ Tryd.func15 (by kernel_rfl) rfl #[.slice A4 l4.length c4, .slice Ao53 t732.length co53] (by rfl) rfl rfl (by (try simp only [List.map_toArray, List.map_cons, List.map_nil]); first | done | rfl | (simp only [List.length_drop, List.length_take]; rfl)) ?_
                      with_reducible refine (spec_SameText.calls _ _ l4 _ _ t732 true _ ?side1 ?side2 ?side3 ?side4 A41.out).mono ?_
                      (case side1 => repeat (first | exact (Kd.C_below HR4.out HB.out) | (with_reducible refine Kd.C_alloc ?_ _) | (with_reducible refine Kd.C_drewN ?_ _) | (with_reducible refine Kd.C_drew ?_)))
                      (case side2 => exact HC4.out)
                      (case side3 => repeat (first | exact (Kd.V_reads' HO734.out).2.2 | (with_reducible refine Kd.C_alloc ?_ _) | (with_reducible refine Kd.C_drewN ?_ _) | (with_reducible refine Kd.C_drew ?_)))
                      (case side4 => exact (Kd.V_reads' HO734.out).2.1)
                      rintro e w' ⟨rfl, ⟨nd, rfl⟩⟩
                      refine ⟨_, rfl, ?_⟩
                      refine hK.out _ _ ⟨(blk_cell BK714.out 0).trans rfl, (blk_cell BK714.out 1).trans rfl, (blk_cell BK714.out 2).trans rfl, (blk_cell BK714.out 3).trans rfl, (blk_cell BK714.out 4).trans rfl, (blk_cell BK714.out 5).trans rfl⟩ (fun hHeld => ?_)
                      clear hK K
                      refine norm_ (a' := ?_) ?_ ?_
                      rotate_left
                      · show Act.put _ (some 86) _ = _
                        simp only [Act.put, List.setIfInBounds_toArray, List.set_cons_zero, List.set_cons_succ, i64_w, i32_w]
                        rfl
                      refine pure_ (i := 11) (N := some 87) (v := ?_) (a' := ?_) #[true, true, true, true, true, true, true, true, true, true, true, true, false, false, false, false, false, false, false, false, false, false] rfl rfl (any_of HT_.out (by kernel_rfl)) (fun _ _ _ h => h) (Or.inl ⟨by rfl, ?_⟩) ?_ ?_
                      rotate_left
                      · intro w'
                        go_simp
                        with_reducible rfl
                      rotate_left
                      · simp only [Act.put, List.setIfInBounds_toArray, List.set_cons_zero, List.set_cons_succ, i64_w, i32_w]
                        rfl
                      refine pure_ (i := 12) (N := some 88) (v := ?_) (a' := ?_) #[true, true, true, true, true, true, true, true, true, true, true, true, true, false, false, false, false, false, false, false, false, false] rfl rfl (any_of HT_.out (by kernel_rfl)) (fun _ _ _ h => h) (Or.inl ⟨by rfl, ?_⟩) ?_ ?_
                      rotate_left
                      · intro w'
                        go_simp
                        with_reducible rfl
                      rotate_left
                      · simp only [Act.put, List.setIfInBounds_toArray, List.set_cons_zero, List.set_cons_succ, i64_w, i32_w]
                        rfl
                      refine pure_ (i := 14) (N := some 90) (v := ?_) (a' := ?_) #[true, true, true, true, true, true, true, true, true, true, true, true, true, false, true, false, false, false, false, false, false, false] rfl rfl (any_of HT_.out (by kernel_rfl)) (fun _ _ _ h => h) (Or.inl ⟨by rfl, ?_⟩) ?_ ?_
                      rotate_left
                      · intro w'
                        go_simp
                        with_reducible rfl
                      rotate_left
                      · simp only [Act.put, List.setIfInBounds_toArray, List.set_cons_zero, List.set_cons_succ, i64_w, i32_w]
                        rfl
                      refine pure_ (i := 15) (N := some 91) (v := ?_) (a' := ?_) #[true, true, true, true, true, true, true, true, true, true, true, true, true, false, true, true, false, false, false, false, false, false] rfl rfl (any_of HT_.out (by kernel_rfl)) (fun _ _ _ h => h) (Or.inl ⟨by rfl, ?_⟩) ?_ ?_
                      rotate_left
                      · intro w'
                        go_simp
                        with_reducible rfl
                      rotate_left
                      · simp only [Act.put, List.setIfInBounds_toArray, List.set_cons_zero, List.set_cons_succ, i64_w, i32_w]
                        rfl
                      refine take_ (i := 13) (N := some 89) (v := ?_) (a' := ?_) #[true, true, true, true, true, true, true, true, true, true, true, true, true, true, true, true, false, false, false, false, false, false] rfl rfl (take_ofW HT_.out HW_.out (by kernel_rfl)) (fun _ _ _ h => h) (Or.inl ⟨by rfl, ?_⟩) hHeld ?_ ?_
                      rotate_left
                      · rintro w' ⟨s0, s1, s2, s3, s4, s5⟩
                        go_simp
                        with_reducible rfl
                      rotate_left
                      · simp only [Act.put, List.setIfInBounds_toArray, List.set_cons_zero, List.set_cons_succ, i64_w, i32_w]
                        rfl
                      refine one_ (i := 16) (N := some 92) #[true, true, true, true, true, true, true, true, true, true, true, true, true, true, true, true, true, false, false, false, false, false] rfl rfl (one_of HT_.out (by kernel_rfl)) (by decide) (fun K hK => ?_)
                      refine goes_ Tryd.func37 (by kernel_rfl) rfl #[.agg #[.int .i64 a0_0, .int .i64 a0_1, .int .i64 a0_2, .int .u64 a0_3, .int .u64 a0_4, .int .u64 a0_5], .slice A1 l1.length c1, .int .u64 a2] (by rfl) rfl rfl (by (try simp only [List.map_toArray, List.map_cons, List.map_nil]); first | done | rfl | (simp only [List.length_drop, List.length_take]; rfl)) ?_
                      with_reducible refine (spec_Proof.calls kj12 a0_0 a0_1 a0_2 a0_3 a0_4 a0_5 (fun k_ => k_ < w.heap.size) _ _ l1 a2 t736 _ ?side1 A43.out).mono ?_
                      (case side1 => exact Kd.V_mk HC1.out (Kd.F_below (Kd.C_F (Kd.heap_slice 5 (Kd.heap_int .u8)) HR1.out) (by repeat (first | (with_reducible first | exact HB.out | apply below_alloc | apply pw_below_drewN | apply below_drew1 | refine below_set ?_ GE714.out) | exact HB.out))))
                      rintro e w54 ⟨v737, rfl, ho0, hb⟩
                      refine ⟨_, rfl, ?_⟩
                      have n0_ := Aside0.mk (Kd.R_below (by (with_reducible repeat (first | apply Kd.R_alloc | apply Kd.R_drewN | apply Kd.R_drew)); exact HO722.out) hb)
                      have n1_ := Aside0.mk (Kd.R_below (by (with_reducible repeat (first | apply Kd.R_alloc | apply Kd.R_drewN | apply Kd.R_drew)); exact HO727.out) hb)
                      have n2_ := Aside0.mk (Kd.V_elder' (by (with_reducible repeat (first | apply Kd.V_alloc | apply Kd.V_drewN | apply Kd.V_drew)); exact HO734.out) (Kd.N_base ho0) hb)
                      have n3_ := Aside0.mk (Kd.N_lower (Kd.N_mono (ok' := fun k_ => some k_ ≠ (.slice Ao48 t720.length co48 : Value).ownBlock ∧ some k_ ≠ (v726 : Value).ownBlock ∧ k_ ≠ gb714) ho0 (fun k_ hk_ => ⟨Or.elim hk_ (fun hs_ => fun e_ => Nat.not_le.2 hs_ (Kd.R_base HO722.out k_ e_.symm)) (fun hn_ => (Kd.fresh' (Kd.R_lt (by (with_reducible repeat (first | apply Kd.R_alloc | apply Kd.R_drewN | apply Kd.R_drew)); exact HO722.out)) k_ hn_)), Or.elim hk_ (fun hs_ => fun e_ => Nat.not_le.2 hs_ (Kd.R_base HO727.out k_ e_.symm)) (fun hn_ => (Kd.fresh' (Kd.R_lt (by (with_reducible repeat (first | apply Kd.R_alloc | apply Kd.R_drewN | apply Kd.R_drew)); exact HO727.out)) k_ hn_)), Or.elim hk_ (fun hs_ => fun e_ => Nat.not_le.2 hs_ (by rw [e_]; exact GW714.out)) (fun hn_ => (Kd.freshB (g := gb714) (o := .cells #[.int .i64 a0_0, .int .i64 a0_1, .int .i64 a0_2, .int .u64 a0_3, .int .u64 a0_4, .int .u64 a0_5] 24 (0, 0)) (by (with_reducible repeat (first | refine blk_drewN ?_ _ | refine blk_drew ?_ | refine blk_alloc ?_ _)); exact BK714.out) k_ hn_))⟩)) (below_size (by repeat (first | (with_reducible first | exact HB.out | apply below_alloc | apply pw_below_drewN | apply below_drew1 | refine below_set ?_ GE714.out) | exact HB.out))))
                      have n4_ := Aside0.mk (blk_below (g := gb714) (o := .cells #[.int .i64 a0_0, .int .i64 a0_1, .int .i64 a0_2, .int .u64 a0_3, .int .u64 a0_4, .int .u64 a0_5] 24 (0, 0)) (by (with_reducible repeat (first | refine blk_drewN ?_ _ | refine blk_drew ?_ | refine blk_alloc ?_ _)); exact BK714.out) hb)
                      have n5_ := Aside0.mk (below_step (by repeat (first | (with_reducible first | exact HB.out | apply below_alloc | apply pw_below_drewN | apply below_drew1 | refine below_set ?_ GE714.out) | exact HB.out)) hb)
                      clear HO722
                      clear HO727
                      clear HO734
                      clear BK714
                      clear HB
                      have HO722 := n0_
                      have HO727 := n1_
                      have HO734 := n2_
                      have HO738 := n3_
                      have BK714 := n4_
                      have HB := n5_
                      clear n0_ n1_ n2_ n3_ n4_ n5_
                      (try clear hb)
                      (try clear hb2)
                      (try clear hk)
                      (try clear hi)
                      (try clear ho0)
                      obtain ⟨Ao55, co55, eo55⟩ := Kd.N_slice HO738.out
                      (first | subst eo55 | (injection eo55 with f1_ f2_ f3_; have f4_ := f1_.symm; have f5_ := f3_.symm; clear f1_ f2_ f3_; subst f4_; subst f5_))
                      refine hK.out _ _ ⟨(blk_cell BK714.out 0).trans rfl, (blk_cell BK714.out 1).trans rfl, (blk_cell BK714.out 2).trans rfl, (blk_cell BK714.out 3).trans rfl, (blk_cell BK714.out 4).trans rfl, (blk_cell BK714.out 5).trans rfl⟩ (fun hHeld => ?_)
                      clear hK K
                      refine norm_ (a' := ?_) ?_ ?_
                      rotate_left
                      · show Act.put _ (some 92) _ = _
                        simp only [Act.put, List.setIfInBounds_toArray, List.set_cons_zero, List.set_cons_succ, i64_w, i32_w]
                        rfl
                      refine one_ (i := 17) (N := some 93) #[true, true, true, true, true, true, true, true, true, true, true, true, true, true, true, true, true, true, false, false, false, false] rfl rfl (one_of HT_.out (by kernel_rfl)) (by decide) (fun K hK => ?_)
                      refine goes_ Tryd.func29 (by kernel_rfl) rfl #[.slice A3 l3.length c3, .slice Ao55 t736.length co55] (by rfl) rfl rfl (by (try simp only [List.map_toArray, List.map_cons, List.map_nil]); first | done | rfl | (simp only [List.length_drop, List.length_take]; rfl)) ?_
                      with_reducible refine (spec_Same.calls kj12 _ _ l3 _ _ t736 t739 _ ?side1 ?side2 ?side3 ?side4 A44.out).mono ?_
                      (case side1 => repeat (first | exact (Kd.C_below HR3.out HB.out) | (with_reducible refine Kd.C_alloc ?_ _) | (with_reducible refine Kd.C_drewN ?_ _) | (with_reducible refine Kd.C_drew ?_)))
                      (case side2 => exact HC3.out)
                      (case side3 => repeat (first | exact (Kd.N_reads' HO738.out).2.2 | (with_reducible refine Kd.C_alloc ?_ _) | (with_reducible refine Kd.C_drewN ?_ _) | (with_reducible refine Kd.C_drew ?_)))
                      (case side4 => exact (Kd.N_reads' HO738.out).2.1)
                      rintro e w' ⟨rfl, ⟨nd, rfl⟩⟩
                      refine ⟨_, rfl, ?_⟩
                      refine hK.out _ _ ⟨(blk_cell BK714.out 0).trans rfl, (blk_cell BK714.out 1).trans rfl, (blk_cell BK714.out 2).trans rfl, (blk_cell BK714.out 3).trans rfl, (blk_cell BK714.out 4).trans rfl, (blk_cell BK714.out 5).trans rfl⟩ (fun hHeld => ?_)
                      clear hK K
                      refine norm_ (a' := ?_) ?_ ?_
                      rotate_left
                      · show Act.put _ (some 93) _ = _
                        simp only [Act.put, List.setIfInBounds_toArray, List.set_cons_zero, List.set_cons_succ, i64_w, i32_w]
                        rfl
                      refine pure_ (i := 18) (N := some 94) (v := ?_) (a' := ?_) #[true, true, true, true, true, true, true, true, true, true, true, true, true, true, true, true, true, true, true, false, false, false] rfl rfl (any_of HT_.out (by kernel_rfl)) (fun _ _ _ h => h) (Or.inl ⟨by rfl, ?_⟩) ?_ ?_
                      rotate_left
                      · intro w'
                        go_simp
                        with_reducible rfl
                      rotate_left
                      · simp only [Act.put, List.setIfInBounds_toArray, List.set_cons_zero, List.set_cons_succ, i64_w, i32_w]
                        rfl
                      refine pure_ (i := 19) (N := some 95) (v := ?_) (a' := ?_) #[true, true, true, true, true, true, true, true, true, true, true, true, true, true, true, true, true, true, true, true, false, false] rfl rfl (any_of HT_.out (by kernel_rfl)) (fun _ _ _ h => h) (Or.inl ⟨by rfl, ?_⟩) ?_ ?_
                      rotate_left
                      · intro w'
                        go_simp
                        with_reducible rfl
                      rotate_left
                      · simp only [Act.put, List.setIfInBounds_toArray, List.set_cons_zero, List.set_cons_succ, i64_w, i32_w]
                        rfl
                      refine pure_ (i := 20) (N := some 96) (v := ?_) (a' := ?_) #[true, true, true, true, true, true, true, true, true, true, true, true, true, true, true, true, true, true, true, true, true, false] rfl rfl (any_of HT_.out (by kernel_rfl)) (fun _ _ _ h => h) (Or.inl ⟨by rfl, ?_⟩) ?_ ?_
                      rotate_left
                      · intro w'
                        go_simp
                        with_reducible rfl
                      rotate_left
                      · simp only [Act.put, List.setIfInBounds_toArray, List.set_cons_zero, List.set_cons_succ, i64_w, i32_w]
                        rfl
                      refine pure_ (i := 21) (N := some 10) (v := ?_) (a' := ?_) #[true, true, true, true, true, true, true, true, true, true, true, true, true, true, true, true, true, true, true, true, true, true] rfl rfl (any_of HT_.out (by kernel_rfl)) (fun _ _ _ h => h) (Or.inl ⟨by rfl, ?_⟩) ?_ ?_
                      rotate_left
                      · intro w'
                        go_simp
                        with_reducible rfl
                      rotate_left
                      · simp only [Act.put, List.setIfInBounds_toArray, List.set_cons_zero, List.set_cons_succ, i64_w, i32_w]
                        rfl
                      refine done_ (done_of HT_.out (by kernel_rfl)) ?_
                      try go_wp2
                      go_ret
                      exact ⟨by first | rfl | (simp [errW_none, errW_some] <;> rfl) | (simp [*, errW_none, errW_some] <;> rfl), by repeat (first | (with_reducible first | exact HB.out | apply below_alloc | apply pw_below_drewN | apply below_drew1 | refine below_set ?_ GE714.out) | exact HB.out)⟩
                    · replace c42 := Bool.eq_false_iff.mpr c42
                      subst c42
                      have H1 : (some ((t724 == 0) == false)) = some r := by rw [if_neg (show ¬ (false = true) by decide)] at H; exact H
                      clear H
                      have H := H1
                      clear H1
                      obtain rfl := Option.some.inj H
                      have hcz56_0 : wc.cell? ⟨gb714, 0, none⟩ = some (.int .i64 a0_0) := (blk_cell BK714.out 0).trans rfl
                      have hcz56_1 : wc.cell? ⟨gb714, 1, none⟩ = some (.int .i64 a0_1) := (blk_cell BK714.out 1).trans rfl
                      have hcz56_2 : wc.cell? ⟨gb714, 2, none⟩ = some (.int .i64 a0_2) := (blk_cell BK714.out 2).trans rfl
                      have hcz56_3 : wc.cell? ⟨gb714, 3, none⟩ = some (.int .u64 a0_3) := (blk_cell BK714.out 3).trans rfl
                      have hcz56_4 : wc.cell? ⟨gb714, 4, none⟩ = some (.int .u64 a0_4) := (blk_cell BK714.out 4).trans rfl
                      have hcz56_5 : wc.cell? ⟨gb714, 5, none⟩ = some (.int .u64 a0_5) := (blk_cell BK714.out 5).trans rfl
                      have hfz56_0 := blk_frozen BK714.out 0
                      have hfz56_1 := blk_frozen BK714.out 1
                      have hfz56_2 := blk_frozen BK714.out 2
                      have hfz56_3 := blk_frozen BK714.out 3
                      have hfz56_4 := blk_frozen BK714.out 4
                      have hfz56_5 := blk_frozen BK714.out 5
                      try go_wp2_with (first | ((with_reducible refine gate_callee (f := 14) rfl ?_); refine goesL_ (some 63) rfl rfl Tryd.func14 (by kernel_rfl) rfl #[.agg #[.int .i64 a0_0, .int .i64 a0_1, .int .i64 a0_2, .int .u64 a0_3, .int .u64 a0_4, .int .u64 a0_5], .slice A1 l1.length c1, .int .u64 (IntKind.u64.wrap ((l1.length : Int)))] rfl (by (try simp only [List.map_toArray, List.map_cons, List.map_nil]); first | done | rfl | (simp only [List.length_drop, List.length_take]; rfl)) ?_; (with_reducible refine (impl_TreeRoot.calls kj12 a0_0 a0_1 a0_2 a0_3 a0_4 a0_5 _ _ l1 (IntKind.u64.wrap ((l1.length : Int))) t720 true _ ?side3 ?side1 ?side2 A35.out).mono ?_); (case side1 => repeat (first | exact (Kd.C_below HR1.out HB.out) | (with_reducible refine Kd.C_alloc ?_ _) | (with_reducible refine Kd.C_drewN ?_ _) | (with_reducible refine Kd.C_drew ?_))); (case side2 => exact HC1.out); (case side3 => exact Glob.below hG (by repeat (first | (with_reducible first | exact HB.out | apply below_alloc | apply pw_below_drewN | apply below_drew1 | refine below_set ?_ GE714.out) | exact HB.out))); rintro e w57 ⟨v721, rfl, ho0, hb⟩; refine ⟨_, rfl, ?_⟩; have n0_ := Aside0.mk (Kd.R_lower ho0 (below_size (by repeat (first | (with_reducible first | exact HB.out | apply below_alloc | apply pw_below_drewN | apply below_drew1 | refine below_set ?_ GE714.out) | exact HB.out)))); have n1_ := Aside0.mk (blk_below (g := gb714) (o := .cells #[.int .i64 a0_0, .int .i64 a0_1, .int .i64 a0_2, .int .u64 a0_3, .int .u64 a0_4, .int .u64 a0_5] 24 (0, 0)) (by (with_reducible repeat (first | refine blk_drewN ?_ _ | refine blk_drew ?_ | refine blk_alloc ?_ _)); exact BK714.out) hb); have n2_ := Aside0.mk (below_step (by repeat (first | (with_reducible first | exact HB.out | apply below_alloc | apply pw_below_drewN | apply below_drew1 | refine below_set ?_ GE714.out) | exact HB.out)) hb); clear BK714; clear HB; have HO722 := n0_; have BK714 := n1_; have HB := n2_; clear n0_ n1_ n2_; (try clear hb); (try clear hb2); (try clear hk); (try clear hi); (try clear ho0); have hcz58_0 : w57.cell? ⟨gb714, 0, none⟩ = some (.int .i64 a0_0) := (blk_cell BK714.out 0).trans rfl; have hcz58_1 : w57.cell? ⟨gb714, 1, none⟩ = some (.int .i64 a0_1) := (blk_cell BK714.out 1).trans rfl; have hcz58_2 : w57.cell? ⟨gb714, 2, none⟩ = some (.int .i64 a0_2) := (blk_cell BK714.out 2).trans rfl; have hcz58_3 : w57.cell? ⟨gb714, 3, none⟩ = some (.int .u64 a0_3) := (blk_cell BK714.out 3).trans rfl; have hcz58_4 : w57.cell? ⟨gb714, 4, none⟩ = some (.int .u64 a0_4) := (blk_cell BK714.out 4).trans rfl; have hcz58_5 : w57.cell? ⟨gb714, 5, none⟩ = some (.int .u64 a0_5) := (blk_cell BK714.out 5).trans rfl; have hfz58_0 := blk_frozen BK714.out 0; have hfz58_1 := blk_frozen BK714.out 1; have hfz58_2 := blk_frozen BK714.out 2; have hfz58_3 := blk_frozen BK714.out 3; have hfz58_4 := blk_frozen BK714.out 4; have hfz58_5 := blk_frozen BK714.out 5; obtain ⟨Ao59, co59, eo59⟩ := Kd.R_slice HO722.out; subst eo59) | ((with_reducible refine gate_callee (f := 36) rfl ?_); refine goesL_ (some 73) rfl rfl Tryd.func36 (by kernel_rfl) rfl #[.agg #[.int .i64 a0_0, .int .i64 a0_1, .int .i64 a0_2, .int .u64 a0_3, .int .u64 a0_4, .int .u64 a0_5], .int .u64 a2, .int .u64 (IntKind.u64.wrap ((l1.length : Int))), .slice A3 l3.length c3, .slice A4 l4.length c4, .slice Ao59 t720.length co59] rfl (by (try simp only [List.map_toArray, List.map_cons, List.map_nil]); first | done | rfl | (simp only [List.length_drop, List.length_take]; rfl)) ?_; (with_reducible refine (impl_VerifyConsistency.calls kj12 a0_0 a0_1 a0_2 a0_3 a0_4 a0_5 a2 (IntKind.u64.wrap ((l1.length : Int))) _ _ l3 _ _ l4 _ _ t720 t724 t725 _ ?side7 ?side1 ?side2 ?side3 ?side4 ?side5 ?side6 A36.out).mono ?_); (case side1 => repeat (first | exact (Kd.C_below HR3.out HB.out) | (with_reducible refine Kd.C_alloc ?_ _) | (with_reducible refine Kd.C_drewN ?_ _) | (with_reducible refine Kd.C_drew ?_))); (case side2 => exact HC3.out); (case side3 => repeat (first | exact (Kd.C_below HR4.out HB.out) | (with_reducible refine Kd.C_alloc ?_ _) | (with_reducible refine Kd.C_drewN ?_ _) | (with_reducible refine Kd.C_drew ?_))); (case side4 => exact HC4.out); (case side5 => repeat (first | exact (Kd.R_reads' HO722.out).2.2 | (with_reducible refine Kd.C_alloc ?_ _) | (with_reducible refine Kd.C_drewN ?_ _) | (with_reducible refine Kd.C_drew ?_))); (case side6 => exact (Kd.R_reads' HO722.out).2.1); (case side7 => exact Glob.below hG (by repeat (first | (with_reducible first | exact HB.out | apply below_alloc | apply pw_below_drewN | apply below_drew1 | refine below_set ?_ GE714.out) | exact HB.out))); rintro e w60 ⟨v726, rfl, ho0, hb⟩; refine ⟨_, rfl, ?_⟩; have n0_ := Aside0.mk (Kd.R_elder' (by (with_reducible repeat (first | apply Kd.R_alloc | apply Kd.R_drewN | apply Kd.R_drew)); exact HO722.out) (Kd.R_base ho0) hb); have n1_ := Aside0.mk (Kd.R_lower (Kd.R_new' ho0 (Kd.R_lt (by (with_reducible repeat (first | apply Kd.R_alloc | apply Kd.R_drewN | apply Kd.R_drew)); exact HO722.out))) (below_size (by repeat (first | (with_reducible first | exact HB.out | apply below_alloc | apply pw_below_drewN | apply below_drew1 | refine below_set ?_ GE714.out) | exact HB.out)))); have n2_ := Aside0.mk (blk_below (g := gb714) (o := .cells #[.int .i64 a0_0, .int .i64 a0_1, .int .i64 a0_2, .int .u64 a0_3, .int .u64 a0_4, .int .u64 a0_5] 24 (0, 0)) (by (with_reducible repeat (first | refine blk_drewN ?_ _ | refine blk_drew ?_ | refine blk_alloc ?_ _)); exact BK714.out) hb); have n3_ := Aside0.mk (below_step (by repeat (first | (with_reducible first | exact HB.out | apply below_alloc | apply pw_below_drewN | apply below_drew1 | refine below_set ?_ GE714.out) | exact HB.out)) hb); clear HO722; clear BK714; clear HB; have HO722 := n0_; have HO727 := n1_; have BK714 := n2_; have HB := n3_; clear n0_ n1_ n2_ n3_; (try clear hb); (try clear hb2); (try clear hk); (try clear hi); (try clear ho0)))
                      (try (rw [drewN_self w60]; generalize hq_ : World.drewN w60 _ = w60; have n0_ : Aside0 (Kd.R (Kd.int .u8) 5 w60 w.heap.size (fun k_ => some k_ ≠ (v726 : Value).ownBlock) (.slice Ao59 t720.length co59) t720) := ⟨by rw [← hq_]; exact (by (with_reducible repeat (first | apply Kd.R_alloc | apply Kd.R_drewN | apply Kd.R_drew)); exact Kd.R_mono HO722.out (fun _ hk => hk.2))⟩; have n1_ : Aside0 (Kd.R (Kd.int .u8) 5 w60 w.heap.size (fun k_ => some k_ ≠ (.slice Ao59 t720.length co59 : Value).ownBlock) v726 t725) := ⟨by rw [← hq_]; exact (by (with_reducible repeat (first | apply Kd.R_alloc | apply Kd.R_drewN | apply Kd.R_drew)); exact Kd.R_mono HO727.out (fun _ hk => hk.2))⟩; have n2_ : Aside0 (w60.heap[gb714]? = some (.cells #[.int .i64 a0_0, .int .i64 a0_1, .int .i64 a0_2, .int .u64 a0_3, .int .u64 a0_4, .int .u64 a0_5] 24 (0, 0))) := ⟨by rw [← hq_]; exact (by (with_reducible repeat (first | refine blk_drewN ?_ _ | refine blk_drew ?_ | refine blk_alloc ?_ _)); exact BK714.out)⟩; have n3_ : Aside0 (Below w.heap.size w w60) := ⟨by rw [← hq_]; exact (by repeat (first | (with_reducible first | exact HB.out | apply below_alloc | apply pw_below_drewN | apply below_drew1 | refine below_set ?_ GE714.out) | exact HB.out))⟩; clear HO722 HO727 BK714 HB hq_; have HO722 := n0_; have HO727 := n1_; have BK714 := n2_; have HB := n3_; clear n0_ n1_ n2_ n3_))
                      have n0_ := Aside0.mk (Kd.R_drew HO722.out)
                      have n1_ := Aside0.mk (Kd.R_drew HO727.out)
                      have n2_ := Aside0.mk (blk_drew BK714.out)
                      have n3_ := Aside0.mk (below_drew1 HB.out)
                      clear HO722
                      clear HO727
                      clear BK714
                      clear HB
                      have HO722 := n0_
                      have HO727 := n1_
                      have BK714 := n2_
                      have HB := n3_
                      clear n0_ n1_ n2_ n3_
                      have q62 : (a2 : Int) ≤ ((l1.length : Int) : Int) := of_decide_eq_true (by first | (with_reducible assumption) | assumption)
                      obtain ⟨i062, hi062, _, hsz62, _⟩ := info_parts info27
                      have hroom62 : l1.length ≤ c1 := HC1.out
                      have hC62 : Kd.C (Kd.slice 5 (Kd.int .u8)) _ A1 l1.length l1 := HR1.out
                      (try clear hcut51)
                      have hcut62 := cut_to (P := Tryd.prog) 25 27 .i64 Tryd.underlying25 hi062 A1 l1.length c1 a2 (of_decide_eq_true (by first | (with_reducible assumption) | assumption)) q62 hroom62
                      have hcut62u := cut_to (P := Tryd.prog) 25 27 .u64 Tryd.underlying25 hi062 A1 l1.length c1 a2 (of_decide_eq_true (by first | (with_reducible assumption) | assumption)) q62 hroom62
                      have hr62 := Kd.C_take (m := (a2 : Int).toNat) hC62 (by omega)
                      have hy62 : y728.length = (a2 : Int).toNat := (by rw [Ny728.out, List.length_take]; omega)
                      rw [← Ny728.out] at hr62
                      rw [← hy62] at hcut62 hcut62u
                      have HR731 := Aside0.mk hr62
                      have HC731 := Aside0.mk (show y728.length ≤ c1 from by omega)
                      clear hr62 hC62 hroom62 hi062 hsz62
                      have KY62 := Aside0.mk hy62
                      clear hy62
                      replace q62 := eq_true q62
                      refine start_ (n := 22) (S := fun w' => w'.cell? ⟨gb714, 0, none⟩ = some (.int .i64 a0_0) ∧ w'.cell? ⟨gb714, 1, none⟩ = some (.int .i64 a0_1) ∧ w'.cell? ⟨gb714, 2, none⟩ = some (.int .i64 a0_2) ∧ w'.cell? ⟨gb714, 3, none⟩ = some (.int .u64 a0_3) ∧ w'.cell? ⟨gb714, 4, none⟩ = some (.int .u64 a0_4) ∧ w'.cell? ⟨gb714, 5, none⟩ = some (.int .u64 a0_5)) (ds := []) #[false, false, false, false, false, false, false, false, false, false, false, false, false, false, false, false, false, false, false, false, false, false] (by kernel_rfl) rfl rfl ⟨(blk_cell BK714.out 0).trans rfl, (blk_cell BK714.out 1).trans rfl, (blk_cell BK714.out 2).trans rfl, (blk_cell BK714.out 3).trans rfl, (blk_cell BK714.out 4).trans rfl, (blk_cell BK714.out 5).trans rfl⟩ (fun hHeld => ?_); refine with_tabW laws_FnConsistencySound.tab8 laws_FnConsistencySound.bits8 (fun HT_ HW_ => ?_)
                      generalize w60.drew = w61 at HO722 HO727 BK714 HB HR731 hHeld ⊢
                      refine pure_ (i := 0) (N := some 76) (v := ?_) (a' := ?_) #[true, false, false, false, false, false, false, false, false, false, false, false, false, false, false, false, false, false, false, false, false, false] rfl rfl (any_of HT_.out (by kernel_rfl)) (fun _ _ _ h => h) (Or.inl ⟨by rfl, ?_⟩) ?_ ?_
                      rotate_left
                      · intro w'
                        go_simp
                        with_reducible rfl
                      rotate_left
                      · simp only [Act.put, List.setIfInBounds_toArray, List.set_cons_zero, List.set_cons_succ, i64_w, i32_w]
                        rfl
                      refine pure_ (i := 1) (N := some 77) (v := ?_) (a' := ?_) #[true, true, false, false, false, false, false, false, false, false, false, false, false, false, false, false, false, false, false, false, false, false] rfl rfl (any_of HT_.out (by kernel_rfl)) (fun _ _ _ h => h) (Or.inl ⟨by rfl, ?_⟩) ?_ ?_
                      rotate_left
                      · intro w'
                        go_simp
                        with_reducible rfl
                      rotate_left
                      · simp only [Act.put, List.setIfInBounds_toArray, List.set_cons_zero, List.set_cons_succ, i64_w, i32_w]
                        rfl
                      refine pure_ (i := 2) (N := some 78) (v := ?_) (a' := ?_) #[true, true, true, false, false, false, false, false, false, false, false, false, false, false, false, false, false, false, false, false, false, false] rfl rfl (any_of HT_.out (by kernel_rfl)) (fun _ _ _ h => h) (Or.inl ⟨by rfl, ?_⟩) ?_ ?_
                      rotate_left
                      · intro w'
                        go_simp
                        with_reducible rfl
                      rotate_left
                      · simp only [Act.put, List.setIfInBounds_toArray, List.set_cons_zero, List.set_cons_succ, i64_w, i32_w]
                        rfl
                      refine pure_ (i := 3) (N := some 79) (v := ?_) (a' := ?_) #[true, true, true, true, false, false, false, false, false, false, false, false, false, false, false, false, false, false, false, false, false, false] rfl rfl (any_of HT_.out (by kernel_rfl)) (fun _ _ _ h => h) (Or.inl ⟨by rfl, ?_⟩) ?_ ?_
                      rotate_left
                      · intro w'
                        go_simp
                        with_reducible rfl
                      rotate_left
                      · simp only [Act.put, List.setIfInBounds_toArray, List.set_cons_zero, List.set_cons_succ, i64_w, i32_w]
                        rfl
                      refine pure_ (i := 4) (N := some 80) (v := ?_) (a' := ?_) #[true, true, true, true, true, false, false, false, false, false, false, false, false, false, false, false, false, false, false, false, false, false] rfl rfl (any_of HT_.out (by kernel_rfl)) (fun _ _ _ h => h) (Or.inl ⟨by rfl, ?_⟩) ?_ ?_
                      rotate_left
                      · intro w'
                        go_simp
                        with_reducible rfl
                      rotate_left
                      · simp only [Act.put, List.setIfInBounds_toArray, List.set_cons_zero, List.set_cons_succ, i64_w, i32_w]
                        rfl
                      refine pure_ (i := 6) (N := some 82) (v := ?_) (a' := ?_) #[true, true, true, true, true, false, true, false, false, false, false, false, false, false, false, false, false, false, false, false, false, false] rfl rfl (any_of HT_.out (by kernel_rfl)) (fun _ _ _ h => h) (Or.inl ⟨by rfl, ?_⟩) ?_ ?_
                      rotate_left
                      · intro w'
                        go_simp
                        with_reducible rfl
                      rotate_left
                      · simp only [Act.put, List.setIfInBounds_toArray, List.set_cons_zero, List.set_cons_succ, i64_w, i32_w]
                        rfl
                      refine pure_ (i := 7) (N := some 83) (v := ?_) (a' := ?_) #[true, true, true, true, true, false, true, true, false, false, false, false, false, false, false, false, false, false, false, false, false, false] rfl rfl (any_of HT_.out (by kernel_rfl)) (fun _ _ _ h => h) (Or.inl ⟨by rfl, ?_⟩) ?_ ?_
                      rotate_left
                      · intro w'
                        go_simp
                        with_reducible rfl
                      rotate_left
                      · simp only [Act.put, List.setIfInBounds_toArray, List.set_cons_zero, List.set_cons_succ, i64_w, i32_w]
                        rfl
                      refine pure_ (i := 8) (N := some 84) (v := ?_) (a' := ?_) #[true, true, true, true, true, false, true, true, true, false, false, false, false, false, false, false, false, false, false, false, false, false] rfl rfl (any_of HT_.out (by kernel_rfl)) (fun _ _ _ h => h) (Or.inl ⟨by rfl, ?_⟩) ?_ ?_
                      rotate_left
                      · intro w'
                        go_simp
                        with_reducible rfl
                      rotate_left
                      · simp only [Act.put, List.setIfInBounds_toArray, List.set_cons_zero, List.set_cons_succ, i64_w, i32_w]
                        rfl
                      refine take_ (i := 5) (N := some 81) (v := ?_) (a' := ?_) #[true, true, true, true, true, true, true, true, true, false, false, false, false, false, false, false, false, false, false, false, false, false] rfl rfl (take_ofW HT_.out HW_.out (by kernel_rfl)) (fun _ _ _ h => h) (Or.inl ⟨by rfl, ?_⟩) hHeld ?_ ?_
                      rotate_left
                      · rintro w' ⟨s0, s1, s2, s3, s4, s5⟩
                        go_simp
                        with_reducible rfl
                      rotate_left
                      · simp only [Act.put, List.setIfInBounds_toArray, List.set_cons_zero, List.set_cons_succ, i64_w, i32_w]
                        rfl
                      refine one_ (i := 9) (N := some 85) #[true, true, true, true, true, true, true, true, true, true, false, false, false, false, false, false, false, false, false, false, false, false] rfl rfl (one_of HT_.out (by kernel_rfl)) (by decide) (fun K hK => ?_)
                      refine goes_ Tryd.func16 (by kernel_rfl) rfl #[.agg #[.int .i64 a0_0, .int .i64 a0_1, .int .i64 a0_2, .int .u64 a0_3, .int .u64 a0_4, .int .u64 a0_5], .slice A1 y728.length c1] (by rfl) rfl rfl (by (try simp only [List.map_toArray, List.map_cons, List.map_nil]); first | done | rfl | (simp only [List.length_drop, List.length_take]; rfl)) ?_
                      with_reducible refine (spec_Root.calls kj12 a0_0 a0_1 a0_2 a0_3 a0_4 a0_5 (fun k_ => k_ < w.heap.size) _ _ y728 t732 _ ?side1 A40.out).mono ?_
                      (case side1 => exact Kd.V_mk HC731.out (Kd.F_below (Kd.C_F (Kd.heap_slice 5 (Kd.heap_int .u8)) HR731.out) (by repeat (first | (with_reducible first | exact HB.out | apply below_alloc | apply pw_below_drewN | apply below_drew1 | refine below_set ?_ GE714.out) | exact HB.out))))
                      rintro e w63 ⟨v733, rfl, ho0, hb⟩
                      refine ⟨_, rfl, ?_⟩
                      have n0_ := Aside0.mk (Kd.R_below (by (with_reducible repeat (first | apply Kd.R_alloc | apply Kd.R_drewN | apply Kd.R_drew)); exact HO722.out) hb)
                      have n1_ := Aside0.mk (Kd.R_below (by (with_reducible repeat (first | apply Kd.R_alloc | apply Kd.R_drewN | apply Kd.R_drew)); exact HO727.out) hb)
                      have n2_ := Aside0.mk (Kd.V_lower (Kd.V_mono (ok' := fun k_ => some k_ ≠ (.slice Ao59 t720.length co59 : Value).ownBlock ∧ some k_ ≠ (v726 : Value).ownBlock ∧ k_ ≠ gb714) ho0 (fun k_ hk_ => ⟨Or.elim hk_ (fun hs_ => fun e_ => Nat.not_le.2 hs_ (Kd.R_base HO722.out k_ e_.symm)) (fun hn_ => (Kd.fresh' (Kd.R_lt (by (with_reducible repeat (first | apply Kd.R_alloc | apply Kd.R_drewN | apply Kd.R_drew)); exact HO722.out)) k_ hn_)), Or.elim hk_ (fun hs_ => fun e_ => Nat.not_le.2 hs_ (Kd.R_base HO727.out k_ e_.symm)) (fun hn_ => (Kd.fresh' (Kd.R_lt (by (with_reducible repeat (first | apply Kd.R_alloc | apply Kd.R_drewN | apply Kd.R_drew)); exact HO727.out)) k_ hn_)), Or.elim hk_ (fun hs_ => fun e_ => Nat.not_le.2 hs_ (by rw [e_]; exact GW714.out)) (fun hn_ => (Kd.freshB (g := gb714) (o := .cells #[.int .i64 a0_0, .int .i64 a0_1, .int .i64 a0_2, .int .u64 a0_3, .int .u64 a0_4, .int .u64 a0_5] 24 (0, 0)) (by (with_reducible repeat (first | refine blk_drewN ?_ _ | refine blk_drew ?_ | refine blk_alloc ?_ _)); exact BK714.out) k_ hn_))⟩)) (below_size (by repeat (first | (with_reducible first | exact HB.out | apply below_alloc | apply pw_below_drewN | apply below_drew1 | refine below_set ?_ GE714.out) | exact HB.out))))
                      have n3_ := Aside0.mk (blk_below (g := gb714) (o := .cells #[.int .i64 a0_0, .int .i64 a0_1, .int .i64 a0_2, .int .u64 a0_3, .int .u64 a0_4, .int .u64 a0_5] 24 (0, 0)) (by (with_reducible repeat (first | refine blk_drewN ?_ _ | refine blk_drew ?_ | refine blk_alloc ?_ _)); exact BK714.out) hb)
                      have n4_ := Aside0.mk (below_step (by repeat (first | (with_reducible first | exact HB.out | apply below_alloc | apply pw_below_drewN | apply below_drew1 | refine below_set ?_ GE714.out) | exact HB.out)) hb)
                      clear HO722
                      clear HO727
                      clear BK714
                      clear HB
                      have HO722 := n0_
                      have HO727 := n1_
                      have HO734 := n2_
                      have BK714 := n3_
                      have HB := n4_
                      clear n0_ n1_ n2_ n3_ n4_
                      (try clear hb)
                      (try clear hb2)
                      (try clear hk)
                      (try clear hi)
                      (try clear ho0)
                      obtain ⟨Ao64, co64, eo64⟩ := Kd.V_slice HO734.out
                      (first | subst eo64 | (injection eo64 with f1_ f2_ f3_; have f4_ := f1_.symm; have f5_ := f3_.symm; clear f1_ f2_ f3_; subst f4_; subst f5_))
                      refine hK.out _ _ ⟨(blk_cell BK714.out 0).trans rfl, (blk_cell BK714.out 1).trans rfl, (blk_cell BK714.out 2).trans rfl, (blk_cell BK714.out 3).trans rfl, (blk_cell BK714.out 4).trans rfl, (blk_cell BK714.out 5).trans rfl⟩ (fun hHeld => ?_)
                      clear hK K
                      refine norm_ (a' := ?_) ?_ ?_
                      rotate_left
                      · show Act.put _ (some 85) _ = _
                        simp only [Act.put, List.setIfInBounds_toArray, List.set_cons_zero, List.set_cons_succ, i64_w, i32_w]
                        rfl
                      refine one_ (i := 10) (N := some 86) #[true, true, true, true, true, true, true, true, true, true, true, false, false, false, false, false, false, false, false, false, false, false] rfl rfl (one_of HT_.out (by kernel_rfl)) (by decide) (fun K hK => ?_)
                      refine goes_ Tryd.func15 (by kernel_rfl) rfl #[.slice A4 l4.length c4, .slice Ao64 t732.length co64] (by rfl) rfl rfl (by (try simp only [List.map_toArray, List.map_cons, List.map_nil]); first | done | rfl | (simp only [List.length_drop, List.length_take]; rfl)) ?_
                      with_reducible refine (spec_SameText.calls _ _ l4 _ _ t732 false _ ?side1 ?side2 ?side3 ?side4 A41.out).mono ?_
                      (case side1 => repeat (first | exact (Kd.C_below HR4.out HB.out) | (with_reducible refine Kd.C_alloc ?_ _) | (with_reducible refine Kd.C_drewN ?_ _) | (with_reducible refine Kd.C_drew ?_)))
                      (case side2 => exact HC4.out)
                      (case side3 => repeat (first | exact (Kd.V_reads' HO734.out).2.2 | (with_reducible refine Kd.C_alloc ?_ _) | (with_reducible refine Kd.C_drewN ?_ _) | (with_reducible refine Kd.C_drew ?_)))
                      (case side4 => exact (Kd.V_reads' HO734.out).2.1)
                      rintro e w' ⟨rfl, ⟨nd, rfl⟩⟩
                      refine ⟨_, rfl, ?_⟩
                      refine hK.out _ _ ⟨(blk_cell BK714.out 0).trans rfl, (blk_cell BK714.out 1).trans rfl, (blk_cell BK714.out 2).trans rfl, (blk_cell BK714.out 3).trans rfl, (blk_cell BK714.out 4).trans rfl, (blk_cell BK714.out 5).trans rfl⟩ (fun hHeld => ?_)
                      clear hK K
                      refine norm_ (a' := ?_) ?_ ?_
                      rotate_left
                      · show Act.put _ (some 86) _ = _
                        simp only [Act.put, List.setIfInBounds_toArray, List.set_cons_zero, List.set_cons_succ, i64_w, i32_w]
                        rfl
                      refine pure_ (i := 11) (N := some 87) (v := ?_) (a' := ?_) #[true, true, true, true, true, true, true, true, true, true, true, true, false, false, false, false, false, false, false, false, false, false] rfl rfl (any_of HT_.out (by kernel_rfl)) (fun _ _ _ h => h) (Or.inl ⟨by rfl, ?_⟩) ?_ ?_
                      rotate_left
                      · intro w'
                        go_simp
                        with_reducible rfl
                      rotate_left
                      · simp only [Act.put, List.setIfInBounds_toArray, List.set_cons_zero, List.set_cons_succ, i64_w, i32_w]
                        rfl
                      refine pure_ (i := 12) (N := some 88) (v := undef) (a' := ?_) #[true, true, true, true, true, true, true, true, true, true, true, true, true, false, false, false, false, false, false, false, false, false] rfl rfl (any_of HT_.out (by kernel_rfl)) (fun _ _ _ h => h) (Or.inr ⟨by rfl, rfl⟩) ?_ ?_
                      rotate_left
                      · simp only [Act.put, List.setIfInBounds_toArray, List.set_cons_zero, List.set_cons_succ, i64_w, i32_w]
                        rfl
                      refine pure_ (i := 13) (N := some 89) (v := undef) (a' := ?_) #[true, true, true, true, true, true, true, true, true, true, true, true, true, true, false, false, false, false, false, false, false, false] rfl rfl (any_of HT_.out (by kernel_rfl)) (fun _ _ _ h => h) (Or.inr ⟨by rfl, rfl⟩) ?_ ?_
                      rotate_left
                      · simp only [Act.put, List.setIfInBounds_toArray, List.set_cons_zero, List.set_cons_succ, i64_w, i32_w]
                        rfl
                      refine pure_ (i := 14) (N := some 90) (v := undef) (a' := ?_) #[true, true, true, true, true, true, true, true, true, true, true, true, true, true, true, false, false, false, false, false, false, false] rfl rfl (any_of HT_.out (by kernel_rfl)) (fun _ _ _ h => h) (Or.inr ⟨by rfl, rfl⟩) ?_ ?_
                      rotate_left
                      · simp only [Act.put, List.setIfInBounds_toArray, List.set_cons_zero, List.set_cons_succ, i64_w, i32_w]
                        rfl
                      refine pure_ (i := 15) (N := some 91) (v := undef) (a' := ?_) #[true, true, true, true, true, true, true, true, true, true, true, true, true, true, true, true, false, false, false, false, false, false] rfl rfl (any_of HT_.out (by kernel_rfl)) (fun _ _ _ h => h) (Or.inr ⟨by rfl, rfl⟩) ?_ ?_
                      rotate_left
                      · simp only [Act.put, List.setIfInBounds_toArray, List.set_cons_zero, List.set_cons_succ, i64_w, i32_w]
                        rfl
                      refine pure_ (i := 16) (N := some 92) (v := undef) (a' := ?_) #[true, true, true, true, true, true, true, true, true, true, true, true, true, true, true, true, true, false, false, false, false, false] rfl rfl (any_of HT_.out (by kernel_rfl)) (fun _ _ _ h => h) (Or.inr ⟨by rfl, rfl⟩) ?_ ?_
                      rotate_left
                      · simp only [Act.put, List.setIfInBounds_toArray, List.set_cons_zero, List.set_cons_succ, i64_w, i32_w]
                        rfl
                      refine pure_ (i := 17) (N := some 93) (v := undef) (a' := ?_) #[true, true, true, true, true, true, true, true, true, true, true, true, true, true, true, true, true, true, false, false, false, false] rfl rfl (any_of HT_.out (by kernel_rfl)) (fun _ _ _ h => h) (Or.inr ⟨by rfl, rfl⟩) ?_ ?_
                      rotate_left
                      · simp only [Act.put, List.setIfInBounds_toArray, List.set_cons_zero, List.set_cons_succ, i64_w, i32_w]
                        rfl
                      refine pure_ (i := 18) (N := some 94) (v := ?_) (a' := ?_) #[true, true, true, true, true, true, true, true, true, true, true, true, true, true, true, true, true, true, true, false, false, false] rfl rfl (any_of HT_.out (by kernel_rfl)) (fun _ _ _ h => h) (Or.inl ⟨by rfl, ?_⟩) ?_ ?_
                      rotate_left
                      · intro w'
                        go_simp
                        with_reducible rfl
                      rotate_left
                      · simp only [Act.put, List.setIfInBounds_toArray, List.set_cons_zero, List.set_cons_succ, i64_w, i32_w]
                        rfl
                      refine pure_ (i := 19) (N := some 95) (v := ?_) (a' := ?_) #[true, true, true, true, true, true, true, true, true, true, true, true, true, true, true, true, true, true, true, true, false, false] rfl rfl (any_of HT_.out (by kernel_rfl)) (fun _ _ _ h => h) (Or.inl ⟨by rfl, ?_⟩) ?_ ?_
                      rotate_left
                      · intro w'
                        go_simp
                        with_reducible rfl
                      rotate_left
                      · simp only [Act.put, List.setIfInBounds_toArray, List.set_cons_zero, List.set_cons_succ, i64_w, i32_w]
                        rfl
                      refine pure_ (i := 20) (N := some 96) (v := ?_) (a' := ?_) #[true, true, true, true, true, true, true, true, true, true, true, true, true, true, true, true, true, true, true, true, true, false] rfl rfl (any_of HT_.out (by kernel_rfl)) (fun _ _ _ h => h) (Or.inl ⟨by rfl, ?_⟩) ?_ ?_
                      rotate_left
                      · intro w'
                        go_simp
                        with_reducible rfl
                      rotate_left
                      · simp only [Act.put, List.setIfInBounds_toArray, List.set_cons_zero, List.set_cons_succ, i64_w, i32_w]
                        rfl
                      refine pure_ (i := 21) (N := some 10) (v := ?_) (a' := ?_) #[true, true, true, true, true, true, true, true, true, true, true, true, true, true, true, true, true, true, true, true, true, true] rfl rfl (any_of HT_.out (by kernel_rfl)) (fun _ _ _ h => h) (Or.inl ⟨by rfl, ?_⟩) ?_ ?_
                      rotate_left
                      · intro w'
                        go_simp
                        with_reducible rfl
                      rotate_left
                      · simp only [Act.put, List.setIfInBounds_toArray, List.set_cons_zero, List.set_cons_succ, i64_w, i32_w]
                        rfl
                      refine done_ (done_of HT_.out (by kernel_rfl)) ?_
                      try go_wp2
                      go_ret
                      exact ⟨by first | rfl | (simp [errW_none, errW_some] <;> rfl) | (simp [*, errW_none, errW_some] <;> rfl), by repeat (first | (with_reducible first | exact HB.out | apply below_alloc | apply pw_below_drewN | apply below_drew1 | refine below_set ?_ GE714.out) | exact HB.out)⟩
                  · rw [if_neg c39] at H
                    exact absurd H (by simp)
                · rw [if_neg c38] at H
                  exact absurd H (by simp)
              · replace c37 := Bool.eq_false_iff.mpr c37
                subst c37
                have H1 : (none) = some r := by rw [if_neg (show ¬ (false = true) by decide)] at H; exact H
                clear H
                have H := H1
                clear H1
                exact absurd H (by simp)
end Go.Proofs.YtielnphmcaecdaaDoor.PAll
