-- Written by a program of this session (wip/tools)
import Derived.Test.YtielnphmcaecdaaDoorQRLPAllx0
import Derived.Test.YtielnphmcaecdaaDoorQRLPAllx6
import Derived.Test.YtielnphmcaecdaaDoorQRLPAllx5
import Derived.Outline
import Derived.Deep.QuietTactic
import Derived.BigQuiet
import Derived.IntWalk
namespace Go.Proofs.YtielnphmcaecdaaDoor.PAll
open Go.RowKit Go.Proofs.YtielnphmcaecdaaDoorW.PrintWords Go.Proofs.YtielnphmcaecdaaDoorW.PrintLast Go.Proofs.YtielnphmcaecdaaDoorW.PrintMore
attribute [local go_sem] max2_int min2_int max_two min_two max_three min_three max_four min_four   -- for this text's walks alone
set_option linter.unusedVariables false
set_option linter.unusedSimpArgs false
def spec_Root.f : Nat → Int → Int → Int → Int → Int → Int → List (List Int) → Option (List Int)
  | 0, _, _, _, _, _, _, _ => none
  | k + 1, a0_0, a0_1, a0_2, a0_3, a0_4, a0_5, l1 => if (l1.length : Int) = 0 then ((spec_EmptyRoot.f k a0_0 a0_1 a0_2 a0_3 a0_4 a0_5).bind fun t265 => (some t265)) else (if (l1.length : Int) = 1 then (if 0 < (l1.length : Int) then (some (rd_L1 l1 0)) else (none)) else ((spec_split.f k (IntKind.u64.wrap ((l1.length : Int)))).bind fun t269 => (if 0 ≤ t269 then (if t269 ≤ (l1.length : Int) then ((spec_Root.f k a0_0 a0_1 a0_2 a0_3 a0_4 a0_5 (l1.take (t269 : Int).toNat)).bind fun t275 => ((spec_Root.f k a0_0 a0_1 a0_2 a0_3 a0_4 a0_5 (l1.drop (t269 : Int).toNat)).bind fun t283 => ((spec_HashChildren.f k a0_0 a0_1 a0_2 a0_3 a0_4 a0_5 t275 t283).bind fun t286 => (some t286)))) else (none)) else (none))))
theorem spec_Root.mono_l : ∀ k, (∀ y0 y1 y2 y3 y4 y5 y6, LeO (spec_Root.f k y0 y1 y2 y3 y4 y5 y6) (spec_Root.f (k + 1) y0 y1 y2 y3 y4 y5 y6))
  | 0 => fun _ _ _ _ _ _ _ r h => by simp [spec_Root.f] at h
  | k + 1 => by
    have ih0 := spec_Root.mono_l k
    · intro y0 y1 y2 y3 y4 y5 y6
      unfold spec_Root.f
      repeat' first
      | (with_reducible exact ih0 _ _ _ _ _ _ _)
      | (with_reducible exact spec_EmptyRoot.mono _ _ _ _ _ _ _)
      | (with_reducible exact spec_HashChildren.mono _ _ _ _ _ _ _ _ _)
      | (with_reducible exact spec_split.mono _ _)
      | (with_reducible exact LeO.refl _)
      | (with_reducible exact LeO.none _)
      | (with_reducible refine LeO.ite ?_ ?_)
      | (with_reducible refine LeO.bind ?_ (fun _ => ?_))
      | exact ih0 _ _ _ _ _ _ _
      | exact spec_EmptyRoot.mono _ _ _ _ _ _ _
      | exact spec_HashChildren.mono _ _ _ _ _ _ _ _ _
      | exact spec_split.mono _ _
      | exact LeO.none _
      | refine LeO.ite ?_ ?_
      | refine LeO.bind ?_ (fun _ => ?_)
theorem spec_Root.mono : ∀ a0 a1 a2 a3 a4 a5 a6 k, LeO (spec_Root.f k a0 a1 a2 a3 a4 a5 a6) (spec_Root.f (k + 1) a0 a1 a2 a3 a4 a5 a6) := by
  intro a0 a1 a2 a3 a4 a5 a6 k
  have ih0 := spec_Root.mono_l k
  exact ih0 a0 a1 a2 a3 a4 a5 a6
def spec_Root.T7 : Bool × List (List Nat × List Nat) := (true, [([], []), ([], []), ([], []), ([], []), ([2, 3], [2, 3]), ([1, 4], [1, 4]), ([], []), ([], []), ([], []), ([7, 8], [7, 8]), ([6, 9, 5], [6, 9]), ([0, 5, 10, 10], [0, 5, 10]), ([11, 11, 0, 1, 2, 3, 4, 5, 6, 7, 8, 9, 10, 11], [11])])
def spec_Root.B7 : List Nat := [0, 0, 0, 0, 12, 30, 0, 0, 0, 384, 1022, 2047, 4095]
theorem spec_Root.tab7 : rtab .any (opsOf Tryd.f16 7) = spec_Root.T7 := by kernel_rfl
theorem spec_Root.bits7 : waitsOk spec_Root.T7.2 spec_Root.B7 = true := by kernel_rfl
set_option maxHeartbeats 8000000 in
set_option maxRecDepth 100000 in
theorem spec_Root.calls (k : Nat) : ∀ (a0_0 : Int) (a0_1 : Int) (a0_2 : Int) (a0_3 : Int) (a0_4 : Int) (a0_5 : Int) (P1_ : Nat → Prop) (A1 : Option Addr) (c1 : Nat) (l1 : List (List Int)) (r : List Int) (w : World) (hs1 : Kd.V (Kd.slice 5 (Kd.int .u8)) 27 w w.heap.size (fun k_ => P1_ k_) (.slice A1 l1.length c1) l1) (h : spec_Root.f k a0_0 a0_1 a0_2 a0_3 a0_4 a0_5 l1 = some r),
    Calls Tryd.prog 16 #[.agg #[.int .i64 a0_0, .int .i64 a0_1, .int .i64 a0_2, .int .u64 a0_3, .int .u64 a0_4, .int .u64 a0_5], .slice A1 l1.length c1] w fun e w' => ∃ v0_ : Value, e = .returned (v0_) ∧ Kd.V (Kd.int .u8) 5 w' w.heap.size (fun k_ => (P1_ k_ ∨ w.heap.size ≤ k_)) v0_ r ∧ Below w.heap.size w w' := by
  induction k using Nat.strongRecOn with
  | _ k ih =>
  intro a0_0 a0_1 a0_2 a0_3 a0_4 a0_5 P1_ A1 c1 l1 r w hs1 h
  cases k with
  | zero => exact absurd h (by simp [spec_Root.f])
  | succ k =>
  simp only [spec_Root.f] at h
  have hu24 := Tryd.underlying24
  have HO1 := Aside0.mk (show Kd.V (Kd.slice 5 (Kd.int .u8)) 27 w w.heap.size (fun k_ => (P1_ k_ ∨ w.heap.size ≤ k_)) (.slice A1 l1.length c1) l1 from Kd.V_mono hs1 (fun k_ hk => .inl hk))
  have HB := Aside0.mk (Below.refl w.heap.size w)
  have H : (if (l1.length : Int) = 0 then ((spec_EmptyRoot.f k a0_0 a0_1 a0_2 a0_3 a0_4 a0_5).bind fun t265 => (some t265)) else (if (l1.length : Int) = 1 then (if 0 < (l1.length : Int) then (some (rd_L1 l1 0)) else (none)) else ((spec_split.f k (IntKind.u64.wrap ((l1.length : Int)))).bind fun t269 => (if 0 ≤ t269 then (if t269 ≤ (l1.length : Int) then ((spec_Root.f k a0_0 a0_1 a0_2 a0_3 a0_4 a0_5 (l1.take (t269 : Int).toNat)).bind fun t275 => ((spec_Root.f k a0_0 a0_1 a0_2 a0_3 a0_4 a0_5 (l1.drop (t269 : Int).toNat)).bind fun t283 => ((spec_HashChildren.f k a0_0 a0_1 a0_2 a0_3 a0_4 a0_5 t275 t283).bind fun t286 => (some t286)))) else (none)) else (none))))) = some r := h
  clear h
  by_cases c3 : (l1.length : Int) = 0
  · rw [if_pos c3] at H
    have c3b0 : ((l1.length : Int) == 0) = true := beq_iff_eq.mpr c3
    have c3b1 : ((l1.length : Int) != 0) = false := bne_eq_false_iff_eq.mpr c3
    clear c3
    replace H := Option.bind_eq_some_iff.mp H
    obtain ⟨t265, A40, H⟩ := H
    replace H : (some t265) = some r := H
    have A4 := Aside0.mk A40
    clear A40
    obtain rfl := Option.some.inj H
    go_enter Tryd.func16, Tryd.ntmps16
    go_wp2_with (first | ((with_reducible refine gate_dst (N := 2) rfl ?_); refine box_event ?hg (N := 2) ?hd (cs := #[.int .i64 a0_0, .int .i64 a0_1, .int .i64 a0_2, .int .u64 a0_3, .int .u64 a0_4, .int .u64 a0_5]) (t := 24) ?hr ?_; (case hd => rfl); (case hg => rfl); (case hr => first | (go_simp; done) | (go_simp; rfl)); intro gb264 hg w5 hbox hb; have n0_ := Aside0.mk (Kd.V_below (Kd.V_elderB (by (with_reducible repeat (first | apply Kd.V_alloc | apply Kd.V_drewN | apply Kd.V_drew)); exact HO1.out) gb264 (Nat.le_of_eq hg.symm)) hb); have n1_ := Aside0.mk (below_step (by repeat (first | (with_reducible first | exact HB.out | apply below_alloc | apply pw_below_drewN | apply below_drew1) | exact HB.out)) hb); have n2_ := Aside0.mk (hbox); have n3_ := Aside0.mk ((by rw [hg]; exact (below_size (by repeat (first | (with_reducible first | exact HB.out | apply below_alloc | apply pw_below_drewN | apply below_drew1) | exact HB.out))) : w.heap.size ≤ gb264)); have n4_ := Aside0.mk ((by rw [hg]; exact (below_size (by repeat (first | (with_reducible first | exact HB.out | apply below_alloc | apply pw_below_drewN | apply below_drew1) | exact HB.out))) : w.heap.size ≤ gb264)); clear HO1; clear HB; have HO1 := n0_; have HB := n1_; have BK264 := n2_; have GW264 := n3_; have GE264 := n4_; clear n0_ n1_ n2_ n3_ n4_; clear hb hbox hg; have hcz6_0 : w5.cell? ⟨gb264, 0, none⟩ = some (.int .i64 a0_0) := (blk_cell BK264.out 0).trans rfl; have hcz6_1 : w5.cell? ⟨gb264, 1, none⟩ = some (.int .i64 a0_1) := (blk_cell BK264.out 1).trans rfl; have hcz6_2 : w5.cell? ⟨gb264, 2, none⟩ = some (.int .i64 a0_2) := (blk_cell BK264.out 2).trans rfl; have hcz6_3 : w5.cell? ⟨gb264, 3, none⟩ = some (.int .u64 a0_3) := (blk_cell BK264.out 3).trans rfl; have hcz6_4 : w5.cell? ⟨gb264, 4, none⟩ = some (.int .u64 a0_4) := (blk_cell BK264.out 4).trans rfl; have hcz6_5 : w5.cell? ⟨gb264, 5, none⟩ = some (.int .u64 a0_5) := (blk_cell BK264.out 5).trans rfl; have hfz6_0 := blk_frozen BK264.out 0; have hfz6_1 := blk_frozen BK264.out 1; have hfz6_2 := blk_frozen BK264.out 2; have hfz6_3 := blk_frozen BK264.out 3; have hfz6_4 := blk_frozen BK264.out 4; have hfz6_5 := blk_frozen BK264.out 5) | ((with_reducible refine gate_callee (f := 47) rfl ?_); refine goesL_ (some 11) rfl rfl Tryd.func47 (by kernel_rfl) rfl #[.agg #[.int .i64 a0_0, .int .i64 a0_1, .int .i64 a0_2, .int .u64 a0_3, .int .u64 a0_4, .int .u64 a0_5]] rfl (by (try simp only [List.map_toArray, List.map_cons, List.map_nil]); first | done | rfl | (simp only [List.length_drop, List.length_take]; rfl)) ?_; (with_reducible refine (spec_EmptyRoot.calls k a0_0 a0_1 a0_2 a0_3 a0_4 a0_5 t265 _ A4.out).mono ?_); rintro e w7 ⟨v266, rfl, ho0, hb⟩; refine ⟨_, rfl, ?_⟩; have n0_ := Aside0.mk (Kd.V_elder' (by (with_reducible repeat (first | apply Kd.V_alloc | apply Kd.V_drewN | apply Kd.V_drew)); exact HO1.out) (Kd.R_base ho0) hb); have n1_ := Aside0.mk (Kd.R_lower (Kd.R_newM (M := fun k_ => (w.heap.size ≤ k_)) ho0 (below_size (by repeat (first | (with_reducible first | exact HB.out | apply below_alloc | apply pw_below_drewN | apply below_drew1 | refine below_set ?_ GE264.out) | exact HB.out))) (fun k_ h_ => h_)) (below_size (by repeat (first | (with_reducible first | exact HB.out | apply below_alloc | apply pw_below_drewN | apply below_drew1 | refine below_set ?_ GE264.out) | exact HB.out)))); have n2_ := Aside0.mk (blk_below (g := gb264) (o := .cells #[.int .i64 a0_0, .int .i64 a0_1, .int .i64 a0_2, .int .u64 a0_3, .int .u64 a0_4, .int .u64 a0_5] 24 (0, 0)) (by (with_reducible repeat (first | refine blk_drewN ?_ _ | refine blk_drew ?_ | refine blk_alloc ?_ _)); exact BK264.out) hb); have n3_ := Aside0.mk (below_step (by repeat (first | (with_reducible first | exact HB.out | apply below_alloc | apply pw_below_drewN | apply below_drew1 | refine below_set ?_ GE264.out) | exact HB.out)) hb); clear HO1; clear BK264; clear HB; have HO1 := n0_; have HO267 := n1_; have BK264 := n2_; have HB := n3_; clear n0_ n1_ n2_ n3_; (try clear hb); (try clear hb2); (try clear hk); (try clear hi); (try clear ho0)))
    go_ret
    exact ⟨_, by first | rfl | (simp [errW_none, errW_some] <;> rfl) | (simp [*, errW_none, errW_some] <;> rfl), Kd.V_mono (Kd.R_V (by (with_reducible repeat (first | apply Kd.R_alloc | apply Kd.R_drewN | apply Kd.R_drew)); exact Kd.R_mono HO267.out (fun _ hk => hk.1))) (fun k_ hk => by first | exact ⟨(.inr (hk.1)), hk.2⟩ | exact (.inr (hk))), by repeat (first | (with_reducible first | exact HB.out | apply below_alloc | apply pw_below_drewN | apply below_drew1 | refine below_set ?_ GE264.out) | exact HB.out)⟩
  · rw [if_neg c3] at H
    have c3b0 : ((l1.length : Int) == 0) = false := beq_eq_false_iff_ne.mpr c3
    have c3b1 : ((l1.length : Int) != 0) = true := bne_iff_ne.mpr c3
    have c3b2 : ¬ (l1 = []) := fun h_ => c3 (by rw [h_]; rfl)
    by_cases c8 : (l1.length : Int) = 1
    · rw [if_pos c8] at H
      have c8b0 : ((l1.length : Int) == 1) = true := beq_iff_eq.mpr c8
      have c8b1 : ((l1.length : Int) != 1) = false := bne_eq_false_iff_eq.mpr c8
      clear c8
      by_cases c9 : 0 < (l1.length : Int)
      · rw [if_pos c9] at H
        have c9b0 : decide (0 < (l1.length : Int)) = true := decide_eq_true c9
        have c9b1 : decide (0 < l1.length) = true := decide_eq_true (by omega)
        clear c9
        obtain rfl := Option.some.inj H
        go_enter Tryd.func16, Tryd.ntmps16
        go_wp2_with (first | ((with_reducible refine gate_dst (N := 2) rfl ?_); refine box_event ?hg (N := 2) ?hd (cs := #[.int .i64 a0_0, .int .i64 a0_1, .int .i64 a0_2, .int .u64 a0_3, .int .u64 a0_4, .int .u64 a0_5]) (t := 24) ?hr ?_; (case hd => rfl); (case hg => rfl); (case hr => first | (go_simp; done) | (go_simp; rfl)); intro gb264 hg w10 hbox hb; have n0_ := Aside0.mk (Kd.V_below (Kd.V_elderB (by (with_reducible repeat (first | apply Kd.V_alloc | apply Kd.V_drewN | apply Kd.V_drew)); exact HO1.out) gb264 (Nat.le_of_eq hg.symm)) hb); have n1_ := Aside0.mk (below_step (by repeat (first | (with_reducible first | exact HB.out | apply below_alloc | apply pw_below_drewN | apply below_drew1) | exact HB.out)) hb); have n2_ := Aside0.mk (hbox); have n3_ := Aside0.mk ((by rw [hg]; exact (below_size (by repeat (first | (with_reducible first | exact HB.out | apply below_alloc | apply pw_below_drewN | apply below_drew1) | exact HB.out))) : w.heap.size ≤ gb264)); have n4_ := Aside0.mk ((by rw [hg]; exact (below_size (by repeat (first | (with_reducible first | exact HB.out | apply below_alloc | apply pw_below_drewN | apply below_drew1) | exact HB.out))) : w.heap.size ≤ gb264)); clear HO1; clear HB; have HO1 := n0_; have HB := n1_; have BK264 := n2_; have GW264 := n3_; have GE264 := n4_; clear n0_ n1_ n2_ n3_ n4_; clear hb hbox hg; have p268 : 0 ≤ (0 : Int) := (by omega); have q268 : 0 < (l1.length : Int) := of_decide_eq_true (by first | (with_reducible assumption) | assumption); obtain ⟨ad268, A268_0, c268_0, e268, hx268_0, hl268_0, hi268_0⟩ := at_L1 (Kd.V_reads' HO1.out).2.2 0 p268 q268; cases e268; obtain ⟨ce268, hce268, hMe268, hcc268⟩ := Kd.V_get HO1.out [] 0 p268 (by first | exact q268 | exact of_decide_eq_true (by first | (with_reducible assumption) | assumption) | (have e_ := (Kd.V_reads' HO1.out).1; omega)); obtain ⟨ua268_0, uc268_0, rfl, ul268_0, ge268_0⟩ := Kd.FK_slice_open hMe268; have hv268_0 := hcc268 0 _ rfl; rw [Nat.add_zero, show ((Kd.slice 5 (Kd.int .u8))).sz = 1 from rfl, Nat.mul_one] at hv268_0; replace hv268_0 := Option.some.inj (hv268_0.symm.trans hx268_0); injection hv268_0 with hva_ hvn_ hvc_; rw [hva_] at ge268_0; rw [hvc_] at ul268_0; have HL268_0 := Aside0.mk (show Kd.V (Kd.int .u8) 5 _ w.heap.size _ _ (rd_L1 l1 0) from Kd.V_mk ul268_0 ge268_0); clear hva_ hvn_ hvc_ ge268_0 ul268_0; clear hcc268 hce268; have qi268 : (0 < l1.length) = True := eq_true (by omega); (try rw [show ((0 : Int)).toNat = 0 from rfl] at hx268_0); (try rw [Addr.add_zero'] at hx268_0); have HR268_0 := Aside0.mk hi268_0; have HC268_0 := Aside0.mk hl268_0; clear hi268_0 hl268_0; replace p268 := eq_true p268; replace q268 := eq_true q268))
        go_ret
        exact ⟨_, by first | rfl | (simp [errW_none, errW_some] <;> rfl) | (simp [*, errW_none, errW_some] <;> rfl), by (with_reducible repeat (first | apply Kd.V_alloc | apply Kd.V_drewN | apply Kd.V_drew)); exact Kd.V_mono HL268_0.out (fun _ hk => hk.1), by repeat (first | (with_reducible first | exact HB.out | apply below_alloc | apply pw_below_drewN | apply below_drew1 | refine below_set ?_ GE264.out) | exact HB.out)⟩
      · rw [if_neg c9] at H
        exact absurd H (by simp)
    · rw [if_neg c8] at H
      have c8b0 : ((l1.length : Int) == 1) = false := beq_eq_false_iff_ne.mpr c8
      have c8b1 : ((l1.length : Int) != 1) = true := bne_iff_ne.mpr c8
      replace H := Option.bind_eq_some_iff.mp H
      obtain ⟨t269, A110, H⟩ := H
      replace H : (if 0 ≤ t269 then (if t269 ≤ (l1.length : Int) then ((spec_Root.f k a0_0 a0_1 a0_2 a0_3 a0_4 a0_5 (l1.take (t269 : Int).toNat)).bind fun t275 => ((spec_Root.f k a0_0 a0_1 a0_2 a0_3 a0_4 a0_5 (l1.drop (t269 : Int).toNat)).bind fun t283 => ((spec_HashChildren.f k a0_0 a0_1 a0_2 a0_3 a0_4 a0_5 t275 t283).bind fun t286 => (some t286)))) else (none)) else (none)) = some r := H
      have A11 := Aside0.mk A110
      clear A110
      by_cases c12 : 0 ≤ t269
      · rw [if_pos c12] at H
        have c12b0 := eq_true c12
        have c12b1 : decide (0 ≤ t269) = true := decide_eq_true c12
        clear c12
        by_cases c13 : t269 ≤ (l1.length : Int)
        · rw [if_pos c13] at H
          have c13b0 := eq_true c13
          have c13b1 : decide (t269 ≤ (l1.length : Int)) = true := decide_eq_true c13
          clear c13
          obtain ⟨y270, hy270⟩ : ∃ y_ : List (List Int), y_ = (l1.take (t269 : Int).toNat) := ⟨_, rfl⟩
          replace H : ((spec_Root.f k a0_0 a0_1 a0_2 a0_3 a0_4 a0_5 y270).bind fun t275 => ((spec_Root.f k a0_0 a0_1 a0_2 a0_3 a0_4 a0_5 (l1.drop (t269 : Int).toNat)).bind fun t283 => ((spec_HashChildren.f k a0_0 a0_1 a0_2 a0_3 a0_4 a0_5 t275 t283).bind fun t286 => (some t286)))) = some r := by first | (rw [hy270]; with_reducible exact H) | (have H2_ := (Option.bind_some _ _).symm.trans H; rw [hy270]; with_reducible exact H2_) | (have H2_ := (Option.bind_some _ _).symm.trans H; with_reducible exact H2_) | with_reducible exact H | (rw [hy270]; exact H) | exact H
          have Ny270 := Aside0.mk hy270
          clear hy270
          replace H := Option.bind_eq_some_iff.mp H
          obtain ⟨t275, A140, H⟩ := H
          replace H : ((spec_Root.f k a0_0 a0_1 a0_2 a0_3 a0_4 a0_5 (l1.drop (t269 : Int).toNat)).bind fun t283 => ((spec_HashChildren.f k a0_0 a0_1 a0_2 a0_3 a0_4 a0_5 t275 t283).bind fun t286 => (some t286))) = some r := H
          have A14 := Aside0.mk A140
          clear A140
          have c15b0 := eq_true (of_decide_eq_true (by first | (with_reducible assumption) | assumption) : 0 ≤ t269)
          have c16b0 := eq_true (of_decide_eq_true (by first | (with_reducible assumption) | assumption) : t269 ≤ (l1.length : Int))
          obtain ⟨y278, hy278⟩ : ∃ y_ : List (List Int), y_ = (l1.drop (t269 : Int).toNat) := ⟨_, rfl⟩
          replace H : ((spec_Root.f k a0_0 a0_1 a0_2 a0_3 a0_4 a0_5 y278).bind fun t283 => ((spec_HashChildren.f k a0_0 a0_1 a0_2 a0_3 a0_4 a0_5 t275 t283).bind fun t286 => (some t286))) = some r := by first | (rw [hy278]; with_reducible exact H) | (have H2_ := (Option.bind_some _ _).symm.trans H; rw [hy278]; with_reducible exact H2_) | (have H2_ := (Option.bind_some _ _).symm.trans H; with_reducible exact H2_) | with_reducible exact H | (rw [hy278]; exact H) | exact H
          have Ny278 := Aside0.mk hy278
          clear hy278
          replace H := Option.bind_eq_some_iff.mp H
          obtain ⟨t283, A170, H⟩ := H
          replace H : ((spec_HashChildren.f k a0_0 a0_1 a0_2 a0_3 a0_4 a0_5 t275 t283).bind fun t286 => (some t286)) = some r := H
          have A17 := Aside0.mk A170
          clear A170
          replace H := Option.bind_eq_some_iff.mp H
          obtain ⟨t286, A180, H⟩ := H
          replace H : (some t286) = some r := H
          have A18 := Aside0.mk A180
          clear A180
          obtain rfl := Option.some.inj H
          go_enter Tryd.func16, Tryd.ntmps16
          try go_wp2_with (first | ((with_reducible refine gate_dst (N := 2) rfl ?_); refine box_event ?hg (N := 2) ?hd (cs := #[.int .i64 a0_0, .int .i64 a0_1, .int .i64 a0_2, .int .u64 a0_3, .int .u64 a0_4, .int .u64 a0_5]) (t := 24) ?hr ?_; (case hd => rfl); (case hg => rfl); (case hr => first | (go_simp; done) | (go_simp; rfl)); intro gb264 hg w19 hbox hb; have n0_ := Aside0.mk (Kd.V_below (Kd.V_elderB (by (with_reducible repeat (first | apply Kd.V_alloc | apply Kd.V_drewN | apply Kd.V_drew)); exact HO1.out) gb264 (Nat.le_of_eq hg.symm)) hb); have n1_ := Aside0.mk (below_step (by repeat (first | (with_reducible first | exact HB.out | apply below_alloc | apply pw_below_drewN | apply below_drew1) | exact HB.out)) hb); have n2_ := Aside0.mk (hbox); have n3_ := Aside0.mk ((by rw [hg]; exact (below_size (by repeat (first | (with_reducible first | exact HB.out | apply below_alloc | apply pw_below_drewN | apply below_drew1) | exact HB.out))) : w.heap.size ≤ gb264)); have n4_ := Aside0.mk ((by rw [hg]; exact (below_size (by repeat (first | (with_reducible first | exact HB.out | apply below_alloc | apply pw_below_drewN | apply below_drew1) | exact HB.out))) : w.heap.size ≤ gb264)); clear HO1; clear HB; have HO1 := n0_; have HB := n1_; have BK264 := n2_; have GW264 := n3_; have GE264 := n4_; clear n0_ n1_ n2_ n3_ n4_; clear hb hbox hg) | ((with_reducible refine gate_callee (f := 48) rfl ?_); refine goesL_ (some 20) rfl rfl Tryd.func48 (by kernel_rfl) rfl #[.int .u64 (IntKind.u64.wrap ((l1.length : Int)))] rfl (by (try simp only [List.map_toArray, List.map_cons, List.map_nil]); first | done | rfl | (simp only [List.length_drop, List.length_take]; rfl)) ?_; (with_reducible refine (spec_split.calls k (IntKind.u64.wrap ((l1.length : Int))) t269 _ A11.out).mono ?_); rintro e w' ⟨rfl, ⟨nd, rfl⟩⟩; refine ⟨_, rfl, ?_⟩))
          (try (rw [drewN_self w19]; generalize hq_ : World.drewN w19 _ = w19; have n0_ : Aside0 (Kd.V (Kd.slice 5 (Kd.int .u8)) 27 w19 w.heap.size (fun k_ => (P1_ k_ ∨ w.heap.size ≤ k_) ∧ k_ ≠ gb264) (.slice A1 l1.length c1) l1) := ⟨by rw [← hq_]; exact (by (with_reducible repeat (first | apply Kd.V_alloc | apply Kd.V_drewN | apply Kd.V_drew)); exact HO1.out)⟩; have n1_ : Aside0 (w19.heap[gb264]? = some (.cells #[.int .i64 a0_0, .int .i64 a0_1, .int .i64 a0_2, .int .u64 a0_3, .int .u64 a0_4, .int .u64 a0_5] 24 (0, 0))) := ⟨by rw [← hq_]; exact (by (with_reducible repeat (first | refine blk_drewN ?_ _ | refine blk_drew ?_ | refine blk_alloc ?_ _)); exact BK264.out)⟩; have n2_ : Aside0 (Below w.heap.size w w19) := ⟨by rw [← hq_]; exact (by repeat (first | (with_reducible first | exact HB.out | apply below_alloc | apply pw_below_drewN | apply below_drew1 | refine below_set ?_ GE264.out) | exact HB.out))⟩; clear HO1 BK264 HB hq_; have HO1 := n0_; have BK264 := n1_; have HB := n2_; clear n0_ n1_ n2_))
          have n0_ := Aside0.mk (Kd.V_drew HO1.out)
          have n1_ := Aside0.mk (blk_drew BK264.out)
          have n2_ := Aside0.mk (below_drew1 HB.out)
          clear HO1
          clear BK264
          clear HB
          have HO1 := n0_
          have BK264 := n1_
          have HB := n2_
          clear n0_ n1_ n2_
          have q21 : (t269 : Int) ≤ ((l1.length : Int) : Int) := of_decide_eq_true (by first | (with_reducible assumption) | assumption)
          obtain ⟨i021, hi021, _, hsz21, _⟩ := info_parts info27
          have hroom21 : l1.length ≤ c1 := (Kd.V_reads' HO1.out).2.1
          have hC21 : Kd.F (Kd.slice 5 (Kd.int .u8)) _ _ A1 l1.length l1 := (Kd.V_at (base := w.heap.size) HO1.out).2.2
          have hcut21 := cut_to (P := Tryd.prog) 25 27 .i64 Tryd.underlying25 hi021 A1 l1.length c1 t269 (of_decide_eq_true (by first | (with_reducible assumption) | assumption)) q21 hroom21
          have hcut21u := cut_to (P := Tryd.prog) 25 27 .u64 Tryd.underlying25 hi021 A1 l1.length c1 t269 (of_decide_eq_true (by first | (with_reducible assumption) | assumption)) q21 hroom21
          have hr21 := Kd.F_take (m := (t269 : Int).toNat) hC21 (by omega)
          have hy21 : y270.length = (t269 : Int).toNat := (by rw [Ny270.out, List.length_take]; omega)
          rw [← Ny270.out] at hr21
          rw [← hy21] at hcut21 hcut21u
          have HO274 := Aside0.mk (show Kd.V (Kd.slice 5 (Kd.int .u8)) 27 _ w.heap.size _ (.slice A1 y270.length c1) y270 from Kd.V_mk (by omega) hr21)
          have HC274 := Aside0.mk (show y270.length ≤ c1 from by omega)
          clear hr21 hC21 hroom21 hi021 hsz21
          have KY21 := Aside0.mk hy21
          clear hy21
          replace q21 := eq_true q21
          have q22 : (t269 : Int) ≤ ((l1.length : Int) : Int) := of_decide_eq_true (by first | (with_reducible assumption) | assumption)
          obtain ⟨i022, hi022, _, hsz22, _⟩ := info_parts info27
          have hroom22 : l1.length ≤ c1 := (Kd.V_reads' HO1.out).2.1
          have hC22 : Kd.F (Kd.slice 5 (Kd.int .u8)) _ _ A1 l1.length l1 := (Kd.V_at (base := w.heap.size) HO1.out).2.2
          have q022 : (0 : Int) ≤ (t269 : Int) := of_decide_eq_true (by first | (with_reducible assumption) | assumption)
          have hcut22 := cut_from (P := Tryd.prog) 25 27 .i64 Tryd.underlying25 hi022 1 hsz22 A1 l1.length c1 t269 q022 q22
          have hcut22u := cut_from (P := Tryd.prog) 25 27 .u64 Tryd.underlying25 hi022 1 hsz22 A1 l1.length c1 t269 q022 q22
          have hr22 := Kd.F_cut (m := (t269 : Int).toNat) (c := c1) hC22 (by omega) hroom22
          obtain ⟨A22, hA22⟩ : ∃ A1_, A1_ = (if c1 = (t269 : Int).toNat then A1 else (A1 : Option Addr).map (·.add ((t269 : Int).toNat * 1))) := ⟨_, rfl⟩
          obtain ⟨c22, hc22⟩ : ∃ c1_, c1_ = c1 - (t269 : Int).toNat := ⟨_, rfl⟩
          have hy22 : y278.length = l1.length - (t269 : Int).toNat := (by rw [Ny278.out, List.length_drop] <;> omega)
          rw [show (l1).drop (t269 : Int).toNat = y278 from Ny278.out.symm] at hr22
          replace hr22 : Kd.F (Kd.slice 5 (Kd.int .u8)) _ _ A22 y278.length y278 := (by rw [hA22]; exact hr22)
          rw [← hy22, ← hA22, ← hc22] at hcut22 hcut22u
          have HO282 := Aside0.mk (show Kd.V (Kd.slice 5 (Kd.int .u8)) 27 _ w.heap.size _ (.slice A22 y278.length c22) y278 from Kd.V_mk (by rw [hy22, hc22]; exact Nat.sub_le_sub_right hroom22 _) hr22)
          have HC282 := Aside0.mk (show y278.length ≤ c22 from by rw [hy22, hc22]; exact Nat.sub_le_sub_right hroom22 _)
          clear hr22 hC22 hroom22 hi022 hsz22 hc22
          have KY22 := Aside0.mk hy22
          have KA22 := Aside0.mk hA22
          clear hy22 hA22
          replace q22 := eq_true q22
          refine start_ (n := 13) (S := fun w' => w'.cell? ⟨gb264, 0, none⟩ = some (.int .i64 a0_0) ∧ w'.cell? ⟨gb264, 1, none⟩ = some (.int .i64 a0_1) ∧ w'.cell? ⟨gb264, 2, none⟩ = some (.int .i64 a0_2) ∧ w'.cell? ⟨gb264, 3, none⟩ = some (.int .u64 a0_3) ∧ w'.cell? ⟨gb264, 4, none⟩ = some (.int .u64 a0_4) ∧ w'.cell? ⟨gb264, 5, none⟩ = some (.int .u64 a0_5)) (ds := []) #[false, false, false, false, false, false, false, false, false, false, false, false, false] (by kernel_rfl) rfl rfl ⟨(blk_cell BK264.out 0).trans rfl, (blk_cell BK264.out 1).trans rfl, (blk_cell BK264.out 2).trans rfl, (blk_cell BK264.out 3).trans rfl, (blk_cell BK264.out 4).trans rfl, (blk_cell BK264.out 5).trans rfl⟩ (fun hHeld => ?_); refine with_tabW spec_Root.tab7 spec_Root.bits7 (fun HT_ HW_ => ?_)
          generalize w19.drew = w20 at HO1 BK264 HB HO274 HO282 hHeld ⊢
          refine pure_ (i := 2) (N := some 23) (v := ?_) (a' := ?_) #[false, false, true, false, false, false, false, false, false, false, false, false, false] rfl rfl (any_of HT_.out (by kernel_rfl)) (fun _ _ _ h => h) (Or.inl ⟨by rfl, ?_⟩) ?_ ?_
          rotate_left
          · intro w'
            go_simp
            with_reducible rfl
          rotate_left
          · simp only [Act.put, List.setIfInBounds_toArray, List.set_cons_zero, List.set_cons_succ, i64_w, i32_w]
            rfl
          refine pure_ (i := 3) (N := some 24) (v := ?_) (a' := ?_) #[false, false, true, true, false, false, false, false, false, false, false, false, false] rfl rfl (any_of HT_.out (by kernel_rfl)) (fun _ _ _ h => h) (Or.inl ⟨by rfl, ?_⟩) ?_ ?_
          rotate_left
          · intro w'
            go_simp
            with_reducible rfl
          rotate_left
          · simp only [Act.put, List.setIfInBounds_toArray, List.set_cons_zero, List.set_cons_succ, i64_w, i32_w]
            rfl
          refine pure_ (i := 4) (N := some 25) (v := ?_) (a' := ?_) #[false, false, true, true, true, false, false, false, false, false, false, false, false] rfl rfl (any_of HT_.out (by kernel_rfl)) (fun _ _ _ h => h) (Or.inl ⟨by rfl, ?_⟩) ?_ ?_
          rotate_left
          · intro w'
            go_simp
            with_reducible rfl
          rotate_left
          · simp only [Act.put, List.setIfInBounds_toArray, List.set_cons_zero, List.set_cons_succ, i64_w, i32_w]
            rfl
          refine pure_ (i := 7) (N := some 28) (v := ?_) (a' := ?_) #[false, false, true, true, true, false, false, true, false, false, false, false, false] rfl rfl (any_of HT_.out (by kernel_rfl)) (fun _ _ _ h => h) (Or.inl ⟨by rfl, ?_⟩) ?_ ?_
          rotate_left
          · intro w'
            go_simp
            with_reducible rfl
          rotate_left
          · simp only [Act.put, List.setIfInBounds_toArray, List.set_cons_zero, List.set_cons_succ, i64_w, i32_w]
            rfl
          refine pure_ (i := 8) (N := some 29) (v := ?_) (a' := ?_) #[false, false, true, true, true, false, false, true, true, false, false, false, false] rfl rfl (any_of HT_.out (by kernel_rfl)) (fun _ _ _ h => h) (Or.inl ⟨by rfl, ?_⟩) ?_ ?_
          rotate_left
          · intro w'
            go_simp
            with_reducible rfl
          rotate_left
          · simp only [Act.put, List.setIfInBounds_toArray, List.set_cons_zero, List.set_cons_succ, i64_w, i32_w]
            rfl
          refine pure_ (i := 9) (N := some 30) (v := ?_) (a' := ?_) #[false, false, true, true, true, false, false, true, true, true, false, false, false] rfl rfl (any_of HT_.out (by kernel_rfl)) (fun _ _ _ h => h) (Or.inl ⟨by rfl, ?_⟩) ?_ ?_
          rotate_left
          · intro w'
            go_simp
            with_reducible rfl
          rotate_left
          · simp only [Act.put, List.setIfInBounds_toArray, List.set_cons_zero, List.set_cons_succ, i64_w, i32_w]
            rfl
          refine take_ (i := 0) (N := some 21) (v := ?_) (a' := ?_) #[true, false, true, true, true, false, false, true, true, true, false, false, false] rfl rfl (take_ofW HT_.out HW_.out (by kernel_rfl)) (fun _ _ _ h => h) (Or.inl ⟨by rfl, ?_⟩) hHeld ?_ ?_
          rotate_left
          · rintro w' ⟨s0, s1, s2, s3, s4, s5⟩
            go_simp
            with_reducible rfl
          rotate_left
          · simp only [Act.put, List.setIfInBounds_toArray, List.set_cons_zero, List.set_cons_succ, i64_w, i32_w]
            rfl
          refine take_ (i := 1) (N := some 22) (v := ?_) (a' := ?_) #[true, true, true, true, true, false, false, true, true, true, false, false, false] rfl rfl (take_ofW HT_.out HW_.out (by kernel_rfl)) (fun _ _ _ h => h) (Or.inl ⟨by rfl, ?_⟩) hHeld ?_ ?_
          rotate_left
          · rintro w' ⟨s0, s1, s2, s3, s4, s5⟩
            go_simp
            with_reducible rfl
          rotate_left
          · simp only [Act.put, List.setIfInBounds_toArray, List.set_cons_zero, List.set_cons_succ, i64_w, i32_w]
            rfl
          refine take_ (i := 6) (N := some 27) (v := ?_) (a' := ?_) #[true, true, true, true, true, false, true, true, true, true, false, false, false] rfl rfl (take_ofW HT_.out HW_.out (by kernel_rfl)) (fun _ _ _ h => h) (Or.inl ⟨by rfl, ?_⟩) hHeld ?_ ?_
          rotate_left
          · rintro w' ⟨s0, s1, s2, s3, s4, s5⟩
            go_simp
            with_reducible rfl
          rotate_left
          · simp only [Act.put, List.setIfInBounds_toArray, List.set_cons_zero, List.set_cons_succ, i64_w, i32_w]
            rfl
          refine one_ (i := 5) (N := some 26) #[true, true, true, true, true, true, true, true, true, true, false, false, false] rfl rfl (one_of HT_.out (by kernel_rfl)) (by decide) (fun K hK => ?_)
          refine goes_ Tryd.func16 (by kernel_rfl) rfl #[.agg #[.int .i64 a0_0, .int .i64 a0_1, .int .i64 a0_2, .int .u64 a0_3, .int .u64 a0_4, .int .u64 a0_5], .slice A1 y270.length c1] (by rfl) rfl rfl (by (try simp only [List.map_toArray, List.map_cons, List.map_nil]); first | done | rfl | (simp only [List.length_drop, List.length_take]; rfl)) ?_
          with_reducible refine (ih k (by omega) a0_0 a0_1 a0_2 a0_3 a0_4 a0_5 (fun k_ => ((P1_ k_ ∨ w.heap.size ≤ k_) ∧ k_ ≠ gb264)) _ _ y270 t275 _ ?side1 A14.out).mono ?_
          (case side1 => exact HO274.out)
          rintro e w23 ⟨v276, rfl, ho0, hb⟩
          refine ⟨_, rfl, ?_⟩
          have n0_ := Aside0.mk (Kd.V_below (by (with_reducible repeat (first | apply Kd.V_alloc | apply Kd.V_drewN | apply Kd.V_drew)); exact HO1.out) hb)
          have n1_ := Aside0.mk (Kd.V_below (by (with_reducible repeat (first | apply Kd.V_alloc | apply Kd.V_drewN | apply Kd.V_drew)); exact HO274.out) hb)
          have n2_ := Aside0.mk (Kd.V_below (by (with_reducible repeat (first | apply Kd.V_alloc | apply Kd.V_drewN | apply Kd.V_drew)); exact HO282.out) hb)
          have n3_ := Aside0.mk (Kd.V_lower (Kd.V_mono (ok' := fun k_ => (P1_ k_ ∨ w.heap.size ≤ k_) ∧ k_ ≠ gb264) ho0 (fun k_ hk_ => ⟨Or.elim hk_ (fun hs_ => hs_.1) (fun hn_ => (.inr (Nat.le_trans (below_size (by repeat (first | (with_reducible first | exact HB.out | apply below_alloc | apply pw_below_drewN | apply below_drew1 | refine below_set ?_ GE264.out) | exact HB.out))) hn_))), Or.elim hk_ (fun hs_ => hs_.2) (fun hn_ => (Kd.freshB (g := gb264) (o := .cells #[.int .i64 a0_0, .int .i64 a0_1, .int .i64 a0_2, .int .u64 a0_3, .int .u64 a0_4, .int .u64 a0_5] 24 (0, 0)) (by (with_reducible repeat (first | refine blk_drewN ?_ _ | refine blk_drew ?_ | refine blk_alloc ?_ _)); exact BK264.out) k_ hn_))⟩)) (below_size (by repeat (first | (with_reducible first | exact HB.out | apply below_alloc | apply pw_below_drewN | apply below_drew1 | refine below_set ?_ GE264.out) | exact HB.out))))
          have n4_ := Aside0.mk (blk_below (g := gb264) (o := .cells #[.int .i64 a0_0, .int .i64 a0_1, .int .i64 a0_2, .int .u64 a0_3, .int .u64 a0_4, .int .u64 a0_5] 24 (0, 0)) (by (with_reducible repeat (first | refine blk_drewN ?_ _ | refine blk_drew ?_ | refine blk_alloc ?_ _)); exact BK264.out) hb)
          have n5_ := Aside0.mk (below_step (by repeat (first | (with_reducible first | exact HB.out | apply below_alloc | apply pw_below_drewN | apply below_drew1 | refine below_set ?_ GE264.out) | exact HB.out)) hb)
          clear HO1
          clear HO274
          clear HO282
          clear BK264
          clear HB
          have HO1 := n0_
          have HO274 := n1_
          have HO282 := n2_
          have HO277 := n3_
          have BK264 := n4_
          have HB := n5_
          clear n0_ n1_ n2_ n3_ n4_ n5_
          (try clear hb)
          (try clear hb2)
          (try clear hk)
          (try clear hi)
          (try clear ho0)
          refine hK.out _ _ ⟨(blk_cell BK264.out 0).trans rfl, (blk_cell BK264.out 1).trans rfl, (blk_cell BK264.out 2).trans rfl, (blk_cell BK264.out 3).trans rfl, (blk_cell BK264.out 4).trans rfl, (blk_cell BK264.out 5).trans rfl⟩ (fun hHeld => ?_)
          clear hK K
          refine norm_ (a' := ?_) ?_ ?_
          rotate_left
          · show Act.put _ (some 26) _ = _
            simp only [Act.put, List.setIfInBounds_toArray, List.set_cons_zero, List.set_cons_succ, i64_w, i32_w]
            rfl
          refine one_ (i := 10) (N := some 31) #[true, true, true, true, true, true, true, true, true, true, true, false, false] rfl rfl (one_of HT_.out (by kernel_rfl)) (by decide) (fun K hK => ?_)
          refine goes_ Tryd.func16 (by kernel_rfl) rfl #[.agg #[.int .i64 a0_0, .int .i64 a0_1, .int .i64 a0_2, .int .u64 a0_3, .int .u64 a0_4, .int .u64 a0_5], .slice A22 y278.length c22] (by rfl) rfl rfl (by (try simp only [List.map_toArray, List.map_cons, List.map_nil]); first | done | rfl | (simp only [List.length_drop, List.length_take]; rfl)) ?_
          with_reducible refine (ih k (by omega) a0_0 a0_1 a0_2 a0_3 a0_4 a0_5 (fun k_ => ((P1_ k_ ∨ w.heap.size ≤ k_) ∧ k_ ≠ gb264)) _ _ y278 t283 _ ?side1 A17.out).mono ?_
          (case side1 => exact HO282.out)
          rintro e w24 ⟨v284, rfl, ho0, hb⟩
          refine ⟨_, rfl, ?_⟩
          have n0_ := Aside0.mk (Kd.V_below (by (with_reducible repeat (first | apply Kd.V_alloc | apply Kd.V_drewN | apply Kd.V_drew)); exact HO1.out) hb)
          have n1_ := Aside0.mk (Kd.V_below (by (with_reducible repeat (first | apply Kd.V_alloc | apply Kd.V_drewN | apply Kd.V_drew)); exact HO274.out) hb)
          have n2_ := Aside0.mk (Kd.V_below (by (with_reducible repeat (first | apply Kd.V_alloc | apply Kd.V_drewN | apply Kd.V_drew)); exact HO282.out) hb)
          have n3_ := Aside0.mk (Kd.V_below (by (with_reducible repeat (first | apply Kd.V_alloc | apply Kd.V_drewN | apply Kd.V_drew)); exact HO277.out) hb)
          have n4_ := Aside0.mk (Kd.V_lower (Kd.V_mono (ok' := fun k_ => (P1_ k_ ∨ w.heap.size ≤ k_) ∧ k_ ≠ gb264) ho0 (fun k_ hk_ => ⟨Or.elim hk_ (fun hs_ => hs_.1) (fun hn_ => (.inr (Nat.le_trans (below_size (by repeat (first | (with_reducible first | exact HB.out | apply below_alloc | apply pw_below_drewN | apply below_drew1 | refine below_set ?_ GE264.out) | exact HB.out))) hn_))), Or.elim hk_ (fun hs_ => hs_.2) (fun hn_ => (Kd.freshB (g := gb264) (o := .cells #[.int .i64 a0_0, .int .i64 a0_1, .int .i64 a0_2, .int .u64 a0_3, .int .u64 a0_4, .int .u64 a0_5] 24 (0, 0)) (by (with_reducible repeat (first | refine blk_drewN ?_ _ | refine blk_drew ?_ | refine blk_alloc ?_ _)); exact BK264.out) k_ hn_))⟩)) (below_size (by repeat (first | (with_reducible first | exact HB.out | apply below_alloc | apply pw_below_drewN | apply below_drew1 | refine below_set ?_ GE264.out) | exact HB.out))))
          have n5_ := Aside0.mk (blk_below (g := gb264) (o := .cells #[.int .i64 a0_0, .int .i64 a0_1, .int .i64 a0_2, .int .u64 a0_3, .int .u64 a0_4, .int .u64 a0_5] 24 (0, 0)) (by (with_reducible repeat (first | refine blk_drewN ?_ _ | refine blk_drew ?_ | refine blk_alloc ?_ _)); exact BK264.out) hb)
          have n6_ := Aside0.mk (below_step (by repeat (first | (with_reducible first | exact HB.out | apply below_alloc | apply pw_below_drewN | apply below_drew1 | refine below_set ?_ GE264.out) | exact HB.out)) hb)
          clear HO1
          clear HO274
          clear HO282
          clear HO277
          clear BK264
          clear HB
          have HO1 := n0_
          have HO274 := n1_
          have HO282 := n2_
          have HO277 := n3_
          have HO285 := n4_
          have BK264 := n5_
          have HB := n6_
          clear n0_ n1_ n2_ n3_ n4_ n5_ n6_
          (try clear hb)
          (try clear hb2)
          (try clear hk)
          (try clear hi)
          (try clear ho0)
          obtain ⟨Ao25, co25, eo25⟩ := Kd.V_slice HO277.out
          (first | subst eo25 | (injection eo25 with f1_ f2_ f3_; have f4_ := f1_.symm; have f5_ := f3_.symm; clear f1_ f2_ f3_; subst f4_; subst f5_))
          obtain ⟨Ao26, co26, eo26⟩ := Kd.V_slice HO285.out
          (first | subst eo26 | (injection eo26 with f1_ f2_ f3_; have f4_ := f1_.symm; have f5_ := f3_.symm; clear f1_ f2_ f3_; subst f4_; subst f5_))
          refine hK.out _ _ ⟨(blk_cell BK264.out 0).trans rfl, (blk_cell BK264.out 1).trans rfl, (blk_cell BK264.out 2).trans rfl, (blk_cell BK264.out 3).trans rfl, (blk_cell BK264.out 4).trans rfl, (blk_cell BK264.out 5).trans rfl⟩ (fun hHeld => ?_)
          clear hK K
          refine norm_ (a' := ?_) ?_ ?_
          rotate_left
          · show Act.put _ (some 31) _ = _
            simp only [Act.put, List.setIfInBounds_toArray, List.set_cons_zero, List.set_cons_succ, i64_w, i32_w]
            rfl
          refine one_ (i := 11) (N := some 32) #[true, true, true, true, true, true, true, true, true, true, true, true, false] rfl rfl (one_of HT_.out (by kernel_rfl)) (by decide) (fun K hK => ?_)
          refine goes_ Tryd.func49 (by kernel_rfl) rfl #[.agg #[.int .i64 a0_0, .int .i64 a0_1, .int .i64 a0_2, .int .u64 a0_3, .int .u64 a0_4, .int .u64 a0_5], .slice Ao25 t275.length co25, .slice Ao26 t283.length co26] (by rfl) rfl rfl (by (try simp only [List.map_toArray, List.map_cons, List.map_nil]); first | done | rfl | (simp only [List.length_drop, List.length_take]; rfl)) ?_
          with_reducible refine (spec_HashChildren.calls k a0_0 a0_1 a0_2 a0_3 a0_4 a0_5 _ _ t275 _ _ t283 t286 _ ?side1 ?side2 ?side3 ?side4 A18.out).mono ?_
          (case side1 => repeat (first | exact (Kd.V_reads' HO277.out).2.2 | (with_reducible refine Kd.C_alloc ?_ _) | (with_reducible refine Kd.C_drewN ?_ _) | (with_reducible refine Kd.C_drew ?_)))
          (case side2 => exact (Kd.V_reads' HO277.out).2.1)
          (case side3 => repeat (first | exact (Kd.V_reads' HO285.out).2.2 | (with_reducible refine Kd.C_alloc ?_ _) | (with_reducible refine Kd.C_drewN ?_ _) | (with_reducible refine Kd.C_drew ?_)))
          (case side4 => exact (Kd.V_reads' HO285.out).2.1)
          rintro e w27 ⟨v287, rfl, ho0, hb⟩
          refine ⟨_, rfl, ?_⟩
          have n0_ := Aside0.mk (Kd.V_elder' (by (with_reducible repeat (first | apply Kd.V_alloc | apply Kd.V_drewN | apply Kd.V_drew)); exact HO1.out) (Kd.R_base ho0) hb)
          have n1_ := Aside0.mk (Kd.V_elder' (by (with_reducible repeat (first | apply Kd.V_alloc | apply Kd.V_drewN | apply Kd.V_drew)); exact HO274.out) (Kd.R_base ho0) hb)
          have n2_ := Aside0.mk (Kd.V_elder' (by (with_reducible repeat (first | apply Kd.V_alloc | apply Kd.V_drewN | apply Kd.V_drew)); exact HO282.out) (Kd.R_base ho0) hb)
          have n3_ := Aside0.mk (Kd.V_elder' (by (with_reducible repeat (first | apply Kd.V_alloc | apply Kd.V_drewN | apply Kd.V_drew)); exact HO277.out) (Kd.R_base ho0) hb)
          have n4_ := Aside0.mk (Kd.V_elder' (by (with_reducible repeat (first | apply Kd.V_alloc | apply Kd.V_drewN | apply Kd.V_drew)); exact HO285.out) (Kd.R_base ho0) hb)
          have n5_ := Aside0.mk (Kd.R_lower (Kd.R_newM (M := fun k_ => (w.heap.size ≤ k_)) ho0 (below_size (by repeat (first | (with_reducible first | exact HB.out | apply below_alloc | apply pw_below_drewN | apply below_drew1 | refine below_set ?_ GE264.out) | exact HB.out))) (fun k_ h_ => h_)) (below_size (by repeat (first | (with_reducible first | exact HB.out | apply below_alloc | apply pw_below_drewN | apply below_drew1 | refine below_set ?_ GE264.out) | exact HB.out))))
          have n6_ := Aside0.mk (blk_below (g := gb264) (o := .cells #[.int .i64 a0_0, .int .i64 a0_1, .int .i64 a0_2, .int .u64 a0_3, .int .u64 a0_4, .int .u64 a0_5] 24 (0, 0)) (by (with_reducible repeat (first | refine blk_drewN ?_ _ | refine blk_drew ?_ | refine blk_alloc ?_ _)); exact BK264.out) hb)
          have n7_ := Aside0.mk (below_step (by repeat (first | (with_reducible first | exact HB.out | apply below_alloc | apply pw_below_drewN | apply below_drew1 | refine below_set ?_ GE264.out) | exact HB.out)) hb)
          clear HO1
          clear HO274
          clear HO282
          clear HO277
          clear HO285
          clear BK264
          clear HB
          have HO1 := n0_
          have HO274 := n1_
          have HO282 := n2_
          have HO277 := n3_
          have HO285 := n4_
          have HO288 := n5_
          have BK264 := n6_
          have HB := n7_
          clear n0_ n1_ n2_ n3_ n4_ n5_ n6_ n7_
          (try clear hb)
          (try clear hb2)
          (try clear hk)
          (try clear hi)
          (try clear ho0)
          refine hK.out _ _ ⟨(blk_cell BK264.out 0).trans rfl, (blk_cell BK264.out 1).trans rfl, (blk_cell BK264.out 2).trans rfl, (blk_cell BK264.out 3).trans rfl, (blk_cell BK264.out 4).trans rfl, (blk_cell BK264.out 5).trans rfl⟩ (fun hHeld => ?_)
          clear hK K
          refine norm_ (a' := ?_) ?_ ?_
          rotate_left
          · show Act.put _ (some 32) _ = _
            simp only [Act.put, List.setIfInBounds_toArray, List.set_cons_zero, List.set_cons_succ, i64_w, i32_w]
            rfl
          refine pure_ (i := 12) (N := some 4) (v := ?_) (a' := ?_) #[true, true, true, true, true, true, true, true, true, true, true, true, true] rfl rfl (any_of HT_.out (by kernel_rfl)) (fun _ _ _ h => h) (Or.inl ⟨by rfl, ?_⟩) ?_ ?_
          rotate_left
          · intro w'
            go_simp
            with_reducible rfl
          rotate_left
          · simp only [Act.put, List.setIfInBounds_toArray, List.set_cons_zero, List.set_cons_succ, i64_w, i32_w]
            rfl
          refine done_ (done_of HT_.out (by kernel_rfl)) ?_
          try go_wp2
          go_ret
          exact ⟨_, by first | rfl | (simp [errW_none, errW_some] <;> rfl) | (simp [*, errW_none, errW_some] <;> rfl), Kd.V_mono (Kd.R_V (by (with_reducible repeat (first | apply Kd.R_alloc | apply Kd.R_drewN | apply Kd.R_drew)); exact Kd.R_mono HO288.out (fun _ hk => hk.1))) (fun k_ hk => by first | exact ⟨(.inr (hk.1)), hk.2⟩ | exact (.inr (hk))), by repeat (first | (with_reducible first | exact HB.out | apply below_alloc | apply pw_below_drewN | apply below_drew1 | refine below_set ?_ GE264.out) | exact HB.out)⟩
        · rw [if_neg c13] at H
          exact absurd H (by simp)
      · rw [if_neg c12] at H
        exact absurd H (by simp)
mutual
def spec_Nodes.l0 : Nat → List (S49) → Int → Int → Option ((List (S49)))
  | 0, _, _, _ => none
  | k + 1, x3, x290000, x290001 => if x290000 < x290001 then (spec_Nodes.l1 k x3 0 x290000 x290001) else (some x3)
def spec_Nodes.l1 : Nat → List (S49) → Int → Int → Int → Option ((List (S49)))
  | 0, _, _, _, _ => none
  | k + 1, x3, x4, x290000, x290001 => if x4 < 63 then (if 0 ≤ x4 then (if (Go.bits .and .u64 (shr .u64 x290000 x4) 1) = 0 then (if 0 ≤ (IntKind.u64.wrap (x4 + 1)) then (if (shl .u64 1 (IntKind.u64.wrap (x4 + 1))) ≤ (IntKind.u64.wrap (x290001 - x290000)) then (spec_Nodes.l1 k x3 (IntKind.u64.wrap (x4 + 1)) x290000 x290001) else (if x3.length < 8796093022208 then (spec_Nodes.l0 k (x3 ++ [(⟨x4, shr .u64 x290000 x4⟩ : S49)]) (IntKind.u64.wrap (x290000 + (shl .u64 1 x4))) x290001) else (none))) else (none)) else (if x3.length < 8796093022208 then (spec_Nodes.l0 k (x3 ++ [(⟨x4, shr .u64 x290000 x4⟩ : S49)]) (IntKind.u64.wrap (x290000 + (shl .u64 1 x4))) x290001) else (none))) else (none)) else (if 0 ≤ x4 then (if x3.length < 8796093022208 then (spec_Nodes.l0 k (x3 ++ [(⟨x4, shr .u64 x290000 x4⟩ : S49)]) (IntKind.u64.wrap (x290000 + (shl .u64 1 x4))) x290001) else (none)) else (none))
end
def spec_Nodes.f (k : Nat) (a0_0 : Int) (a0_1 : Int) : Option ((List (S49))) := spec_Nodes.l0 k ([] : List (S49)) a0_0 a0_1
theorem spec_Nodes.mono_l : ∀ k, (∀ y0 y1 y2, LeO (spec_Nodes.l0 k y0 y1 y2) (spec_Nodes.l0 (k + 1) y0 y1 y2)) ∧ (∀ y0 y1 y2 y3, LeO (spec_Nodes.l1 k y0 y1 y2 y3) (spec_Nodes.l1 (k + 1) y0 y1 y2 y3))
  | 0 => ⟨fun _ _ _ r h => by simp [spec_Nodes.l0] at h, fun _ _ _ _ r h => by simp [spec_Nodes.l1] at h⟩
  | k + 1 => by
    obtain ⟨ih0, ih1⟩ := spec_Nodes.mono_l k
    refine ⟨?_, ?_⟩
    · intro y0 y1 y2
      unfold spec_Nodes.l0
      repeat' first
      | (with_reducible exact ih0 _ _ _)
      | (with_reducible exact ih1 _ _ _ _)
      | (with_reducible exact LeO.refl _)
      | (with_reducible exact LeO.none _)
      | (with_reducible refine LeO.ite ?_ ?_)
      | (with_reducible refine LeO.bind ?_ (fun _ => ?_))
      | exact ih0 _ _ _
      | exact ih1 _ _ _ _
      | exact LeO.none _
      | refine LeO.ite ?_ ?_
      | refine LeO.bind ?_ (fun _ => ?_)
    · intro y0 y1 y2 y3
      unfold spec_Nodes.l1
      repeat' first
      | (with_reducible exact ih0 _ _ _)
      | (with_reducible exact ih1 _ _ _ _)
      | (with_reducible exact LeO.refl _)
      | (with_reducible exact LeO.none _)
      | (with_reducible refine LeO.ite ?_ ?_)
      | (with_reducible refine LeO.bind ?_ (fun _ => ?_))
      | exact ih0 _ _ _
      | exact ih1 _ _ _ _
      | exact LeO.none _
      | refine LeO.ite ?_ ?_
      | refine LeO.bind ?_ (fun _ => ?_)
theorem spec_Nodes.mono : ∀ a0 a1 k, LeO (spec_Nodes.f k a0 a1) (spec_Nodes.f (k + 1) a0 a1) := by
  intro a0 a1 k
  obtain ⟨ih0, ih1⟩ := spec_Nodes.mono_l k
  unfold spec_Nodes.f
  repeat' first
      | (with_reducible exact ih0 _ _ _)
      | (with_reducible exact ih1 _ _ _ _)
      | (with_reducible exact LeO.refl _)
      | (with_reducible exact LeO.none _)
      | (with_reducible refine LeO.ite ?_ ?_)
      | (with_reducible refine LeO.bind ?_ (fun _ => ?_))
      | exact ih0 _ _ _
      | exact ih1 _ _ _ _
      | exact LeO.none _
      | refine LeO.ite ?_ ?_
      | refine LeO.bind ?_ (fun _ => ?_)
end Go.Proofs.YtielnphmcaecdaaDoor.PAll
namespace Go.Proofs.YtielnphmcaecdaaDoor.PAll
open Go.RowKit Go.Proofs.YtielnphmcaecdaaDoorW.PrintWords Go.Proofs.YtielnphmcaecdaaDoorW.PrintLast Go.Proofs.YtielnphmcaecdaaDoorW.PrintMore
attribute [local go_sem] max2_int min2_int max_two min_two max_three min_three max_four min_four   -- for this text's walks alone
set_option linter.unusedVariables false
set_option linter.unusedSimpArgs false
theorem eqA49 (d : Nat) (w : World) (x0 y0 : Int) (x1 y1 : Int) :
    (Op.equalIn (d + 2) 49 (.agg #[.int .u64 x0, .int .u64 x1]) (.agg #[.int .u64 y0, .int .u64 y1])).run Tryd.prog w = .ok (x0 == y0 && (x1 == y1)) w := by
  refine eqA_of Tryd.underlying49 (by kernel_rfl) ?_
  refine eqf_cons (by rfl) (by go_simp; rfl) (by go_simp; rfl) (by go_simp) ?_
  exact eqf_last (by rfl) (by go_simp; rfl) (by go_simp; rfl) (by go_simp)
end Go.Proofs.YtielnphmcaecdaaDoor.PAll
namespace Go.Proofs.YtielnphmcaecdaaDoor.PAll
open Go.IntWalk Go.RowKit Go.Proofs.YtielnphmcaecdaaDoorW.PrintWords Go.Proofs.YtielnphmcaecdaaDoorW.PrintLast Go.Proofs.YtielnphmcaecdaaDoorW.PrintMore
set_option linter.unusedVariables false
def sameL : List (List Int) → List (List Int) → Bool
  | [], [] => true
  | x :: xs, y :: ys => if ((strOfNums x).toList == (strOfNums y).toList) = true then sameL xs ys else false
  | _, _ => false
def spec_Same.f (_ : Nat) (l m : List (List Int)) : Option Bool := some (sameL l m)
theorem spec_Same.mono : ∀ l m k, LeO (spec_Same.f k l m) (spec_Same.f (k + 1) l m) := fun _ _ _ => LeO.refl _
end Go.Proofs.YtielnphmcaecdaaDoor.PAll
namespace Go.Proofs.YtielnphmcaecdaaDoor.PAll
open Go.RowKit Go.Proofs.YtielnphmcaecdaaDoorW.PrintWords Go.Proofs.YtielnphmcaecdaaDoorW.PrintLast Go.Proofs.YtielnphmcaecdaaDoorW.PrintMore
attribute [local go_sem] max2_int min2_int max_two min_two max_three min_three max_four min_four   -- for this text's walks alone
set_option linter.unusedVariables false
set_option linter.unusedSimpArgs false
attribute [local go_sem high] eqA49
def spec_SameRange.f (k : Nat) (a0_0 : Int) (a0_1 : Int) (l0_2 : List (List Int)) (a1_0 : Int) (a1_1 : Int) (l1_2 : List (List Int)) : Option (Bool) := if a0_0 = a1_0 then (if a0_1 = a1_1 then ((spec_Same.f k l0_2 l1_2).bind fun t325 => (some t325)) else (some false)) else (some false)
theorem spec_SameRange.mono : ∀ a0 a1 a2 a3 a4 a5 k, LeO (spec_SameRange.f k a0 a1 a2 a3 a4 a5) (spec_SameRange.f (k + 1) a0 a1 a2 a3 a4 a5) := by
  intro a0 a1 a2 a3 a4 a5 k
  unfold spec_SameRange.f
  repeat' first
      | (with_reducible exact spec_Same.mono _ _ _)
      | (with_reducible exact LeO.refl _)
      | (with_reducible exact LeO.none _)
      | (with_reducible refine LeO.ite ?_ ?_)
      | (with_reducible refine LeO.bind ?_ (fun _ => ?_))
      | exact spec_Same.mono _ _ _
      | exact LeO.none _
      | refine LeO.ite ?_ ?_
      | refine LeO.bind ?_ (fun _ => ?_)
def spec_Leaves.f (a0_0 : Int) (a0_1 : Int) : Option (Int × Int) := if 0 ≤ a0_0 then (some (shl .u64 a0_1 a0_0, shl .u64 (IntKind.u64.wrap (a0_1 + 1)) a0_0)) else (none)
set_option maxHeartbeats 8000000 in
set_option maxRecDepth 100000 in
theorem spec_Leaves.calls (a0_0 : Int) (a0_1 : Int) (r1 : Int) (r2 : Int) (w : World) (h : spec_Leaves.f a0_0 a0_1 = some (r1, r2)) :
    Calls Tryd.prog 25 #[.agg #[.int .u64 a0_0, .int .u64 a0_1]] w fun e w' => e = .returned (.agg #[.int .u64 r1, .int .u64 r2]) ∧ Below w.heap.size w w' := by
  have hu49 := Tryd.underlying49
  have hu53 := Tryd.underlying53
  have HB := Aside0.mk (Below.refl w.heap.size w)
  have H : (if 0 ≤ a0_0 then (some (shl .u64 a0_1 a0_0, shl .u64 (IntKind.u64.wrap (a0_1 + 1)) a0_0)) else (none)) = some (r1, r2) := h
  clear h
  by_cases c2 : 0 ≤ a0_0
  · rw [if_pos c2] at H
    have c2b0 := eq_true c2
    have c2b1 : decide (0 ≤ a0_0) = true := decide_eq_true c2
    clear c2
    obtain ⟨ji3, hji3⟩ : ∃ j_ : Int, (shl .u64 a0_1 a0_0) = j_ := ⟨_, rfl⟩
    replace H : (some (ji3, shl .u64 (IntKind.u64.wrap (a0_1 + 1)) a0_0)) = some (r1, r2) := by first | (rw [hji3] at H; exact H) | (simp only [hji3] at H ⊢; exact H)
    have hji3_ : (IntKind.u64.wrap (a0_1 * 2 ^ min a0_0.toNat 64)) = ji3 := hji3
    have hji3z : a0_0 ≤ 64 → (IntKind.u64.wrap (a0_1 * 2 ^ a0_0.toNat)) = ji3 := shl_small hji3
    have c4b0 := eq_true (of_decide_eq_true (by first | (with_reducible assumption) | assumption) : 0 ≤ a0_0)
    obtain ⟨ji5, hji5⟩ : ∃ j_ : Int, (shl .u64 (IntKind.u64.wrap (a0_1 + 1)) a0_0) = j_ := ⟨_, rfl⟩
    replace H : (some (ji3, ji5)) = some (r1, r2) := by first | (rw [hji5] at H; exact H) | (simp only [hji5] at H ⊢; exact H)
    have hji5_ : (IntKind.u64.wrap ((IntKind.u64.wrap (a0_1 + 1)) * 2 ^ min a0_0.toNat 64)) = ji5 := hji5
    have hji5z : a0_0 ≤ 64 → (IntKind.u64.wrap ((IntKind.u64.wrap (a0_1 + 1)) * 2 ^ a0_0.toNat)) = ji5 := shl_small hji5
    simp only [Option.some.injEq, Prod.mk.injEq] at H
    obtain ⟨rfl, rfl⟩ := H
    go_enter Tryd.func25, Tryd.ntmps25
    go_wp2_with (first | ((with_reducible refine gate_dst (N := 1) rfl ?_); refine box_event ?hg (N := 1) ?hd (cs := #[.int .u64 a0_0, .int .u64 a0_1]) (t := 49) ?hr ?_; (case hd => rfl); (case hg => rfl); (case hr => first | (go_simp; done) | (go_simp; rfl)); intro gb330 hg w6 hbox hb; have n0_ := Aside0.mk (below_step (by repeat (first | (with_reducible first | exact HB.out | apply below_alloc | apply pw_below_drewN | apply below_drew1) | exact HB.out)) hb); have n1_ := Aside0.mk (hbox); have n2_ := Aside0.mk ((by rw [hg]; exact (below_size (by repeat (first | (with_reducible first | exact HB.out | apply below_alloc | apply pw_below_drewN | apply below_drew1) | exact HB.out))) : w.heap.size ≤ gb330)); have n3_ := Aside0.mk ((by rw [hg]; exact (below_size (by repeat (first | (with_reducible first | exact HB.out | apply below_alloc | apply pw_below_drewN | apply below_drew1) | exact HB.out))) : w.heap.size ≤ gb330)); clear HB; have HB := n0_; have BK330 := n1_; have GW330 := n2_; have GE330 := n3_; clear n0_ n1_ n2_ n3_; clear hb hbox hg) | ((with_reducible refine gate_dst (N := 2) rfl ?_); refine box_event ?hg (N := 2) ?hd (cs := #[.int .u64 0, .int .u64 0]) (t := 53) ?hr ?_; (case hd => rfl); (case hg => rfl); (case hr => first | (go_simp; done) | (go_simp; rfl)); intro gb331 hg w7 hbox hb; have n0_ := Aside0.mk (blk_below (g := gb330) (o := .cells #[.int .u64 a0_0, .int .u64 a0_1] 49 (0, 0)) (by (with_reducible repeat (first | refine blk_drewN ?_ _ | refine blk_drew ?_ | refine blk_alloc ?_ _)); exact BK330.out) hb); have n1_ := Aside0.mk (below_step (by repeat (first | (with_reducible first | exact HB.out | apply below_alloc | apply pw_below_drewN | apply below_drew1 | refine below_set ?_ GE330.out) | exact HB.out)) hb); have n2_ := Aside0.mk (hbox); have n3_ := Aside0.mk ((by rw [hg]; exact (below_size (by repeat (first | (with_reducible first | exact HB.out | apply below_alloc | apply pw_below_drewN | apply below_drew1 | refine below_set ?_ GE330.out) | exact HB.out))) : w.heap.size ≤ gb331)); have n4_ := Aside0.mk ((by rw [hg]; exact (below_size (by repeat (first | (with_reducible first | exact HB.out | apply below_alloc | apply pw_below_drewN | apply below_drew1 | refine below_set ?_ GE330.out) | exact HB.out))) : w.heap.size ≤ gb331)); have n5_ := Aside0.mk ((by rw [hg]; exact Nat.ne_of_lt (blk_lt (g := gb330) (o := .cells #[.int .u64 a0_0, .int .u64 a0_1] 49 (0, 0)) (by (with_reducible repeat (first | refine blk_drewN ?_ _ | refine blk_drew ?_ | refine blk_alloc ?_ _)); exact BK330.out)) : gb330 ≠ gb331)); have n6_ := Aside0.mk ((by rw [hg]; exact Nat.ne_of_gt (blk_lt (g := gb330) (o := .cells #[.int .u64 a0_0, .int .u64 a0_1] 49 (0, 0)) (by (with_reducible repeat (first | refine blk_drewN ?_ _ | refine blk_drew ?_ | refine blk_alloc ?_ _)); exact BK330.out)) : gb331 ≠ gb330)); clear BK330; clear HB; have BK330 := n0_; have HB := n1_; have BK331 := n2_; have GW331 := n3_; have GE331 := n4_; have NB330_331 := n5_; have NB331_330 := n6_; clear n0_ n1_ n2_ n3_ n4_ n5_ n6_; clear hb hbox hg; have hnb8 := NB330_331.out; have hnc8 := NB331_330.out; have hcz9_0 : w7.cell? ⟨gb330, 0, none⟩ = some (.int .u64 a0_0) := (blk_cell BK330.out 0).trans rfl; have hcz9_1 : w7.cell? ⟨gb330, 1, none⟩ = some (.int .u64 a0_1) := (blk_cell BK330.out 1).trans rfl; have hfz9_0 := blk_frozen BK330.out 0; have hfz9_1 := blk_frozen BK330.out 1; have hcz10_0 : w7.cell? ⟨gb331, 0, none⟩ = some (.int .u64 0) := (blk_cell BK331.out 0).trans rfl; have hcz10_1 : w7.cell? ⟨gb331, 1, none⟩ = some (.int .u64 0) := (blk_cell BK331.out 1).trans rfl; have hfz10_0 := blk_frozen BK331.out 0; have hfz10_1 := blk_frozen BK331.out 1))
    refine bodyPost_ret (results_cell_row rfl _ _ gb331 53 #[.int .u64 ji3, .int .u64 ji5] (0, 0) _ rfl (by (with_reducible repeat (first | refine blk_drewN ?_ _ | refine blk_drew ?_ | refine blk_alloc ?_ _)); refine blk_put (cs := #[.int .u64 ji3, .int .u64 0]) ?_ 1 _ rfl; (with_reducible repeat (first | refine blk_drewN ?_ _ | refine blk_drew ?_ | refine blk_alloc ?_ _)); refine blk_put (cs := #[.int .u64 0, .int .u64 0]) ?_ 0 _ rfl; (with_reducible repeat (first | refine blk_drewN ?_ _ | refine blk_drew ?_ | refine blk_alloc ?_ _)); exact BK331.out) Tryd.underlying53 rfl (by kernel_rfl)) rfl ?_
    exact ⟨by first | rfl | (simp [errW_none, errW_some] <;> rfl) | (simp only [← hji3, ← hji5]; first | rfl | (simp [errW_none, errW_some] <;> rfl)) | (simp [*, errW_none, errW_some] <;> rfl), by repeat (first | (with_reducible first | exact HB.out | apply below_alloc | apply pw_below_drewN | apply below_drew1 | refine below_set ?_ GE330.out | refine below_set ?_ GE331.out) | exact HB.out)⟩
  · rw [if_neg c2] at H
    exact absurd H (by simp)
end Go.Proofs.YtielnphmcaecdaaDoor.PAll
