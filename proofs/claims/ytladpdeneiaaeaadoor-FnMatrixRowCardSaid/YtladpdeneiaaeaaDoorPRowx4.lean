-- Written by a program of this session (wip/tools)
import Derived.Test.YtladpdeneiaaeaaDoorPRowx0
import Derived.Test.YtladpdeneiaaeaaDoorPRowx2
import Derived.Test.YtladpdeneiaaeaaDoorPRowx3
namespace Go.Proofs.YtladpdeneiaaeaaDoor.PRow
open Go.RowKit Go.Proofs.YtladpdeneiaaeaaDoorW.PrintWords Go.Proofs.YtladpdeneiaaeaaDoorW.PrintLast Go.Proofs.YtladpdeneiaaeaaDoorW.PrintMore
attribute [local go_sem] max2_int min2_int max_two min_two max_three min_three max_four min_four   -- for this text's walks alone
set_option linter.unusedVariables false
set_option linter.unusedSimpArgs false

/-! ### spec_Times: function 19 -/
mutual
def spec_Times.l0 : Nat → List (List Int) → List (List Int) → List (List Int) → Int → Int → Option ((List (List Int)))
  | 0, _, _, _, _, _ => none
  | k + 1, x0, x1, x5, x15, x16 => if x16 < x15 then (if 0 ≤ x16 then (if x16 < (x5.length : Int) then (spec_Times.l1 k x0 x1 x5 x16 x15 x16 ((rd_L1 x5 x16).length : Int) 0) else (none)) else (none)) else (some x5)
def spec_Times.l1 : Nat → List (List Int) → List (List Int) → List (List Int) → Int → Int → Int → Int → Int → Option ((List (List Int)))
  | 0, _, _, _, _, _, _, _, _ => none
  | k + 1, x0, x1, x5, x6, x15, x16, x23, x24 => if x24 < x23 then (spec_Times.l2 k x0 x1 x5 x6 x24 x15 x16 x23 x24 (x1.length : Int) 0) else (spec_Times.l0 k x0 x1 x5 x15 (wrap64 (x16 + 1)))
def spec_Times.l2 : Nat → List (List Int) → List (List Int) → List (List Int) → Int → Int → Int → Int → Int → Int → Int → Int → Option ((List (List Int)))
  | 0, _, _, _, _, _, _, _, _, _, _, _ => none
  | k + 1, x0, x1, x5, x6, x7, x15, x16, x23, x24, x28, x29 => if x29 < x28 then (if 0 ≤ x6 then (if x6 < (x5.length : Int) then (if 0 ≤ x7 then (if x7 < ((rd_L1 x5 x6).length : Int) then (if x6 < (x0.length : Int) then (if 0 ≤ x29 then (if x29 < ((rd_L1 x0 x6).length : Int) then (if x29 < (x1.length : Int) then (if x7 < ((rd_L1 x1 x29).length : Int) then ((spec_Mul.f k (rd (rd_L1 x0 x6) x29) (rd (rd_L1 x1 x29) x7)).bind fun t158 => (spec_Times.l2 k x0 x1 (x5.set (x6 : Int).toNat ((rd_L1 x5 x6).set (x7 : Int).toNat (Go.bits .xor .u8 (rd (rd_L1 x5 x6) x7) t158))) x6 x7 x15 x16 x23 x24 x28 (wrap64 (x29 + 1)))) else (none)) else (none)) else (none)) else (none)) else (none)) else (none)) else (none)) else (none)) else (none)) else (spec_Times.l1 k x0 x1 x5 x6 x15 x16 x23 (wrap64 (x24 + 1)))
end
def spec_Times.f (k : Nat) (l0 : List (List Int)) (l1 : List (List Int)) : Option ((List (List Int))) := (spec_Columns.f l1).bind fun t147 => ((spec_Zeros.f k (l0.length : Int) t147).bind fun t148 => (spec_Times.l0 k l0 l1 t148 (l0.length : Int) 0))
theorem spec_Times.mono_l : ∀ k, (∀ y0 y1 y2 y3 y4, LeO (spec_Times.l0 k y0 y1 y2 y3 y4) (spec_Times.l0 (k + 1) y0 y1 y2 y3 y4)) ∧ (∀ y0 y1 y2 y3 y4 y5 y6 y7, LeO (spec_Times.l1 k y0 y1 y2 y3 y4 y5 y6 y7) (spec_Times.l1 (k + 1) y0 y1 y2 y3 y4 y5 y6 y7)) ∧ (∀ y0 y1 y2 y3 y4 y5 y6 y7 y8 y9 y10, LeO (spec_Times.l2 k y0 y1 y2 y3 y4 y5 y6 y7 y8 y9 y10) (spec_Times.l2 (k + 1) y0 y1 y2 y3 y4 y5 y6 y7 y8 y9 y10))
  | 0 => ⟨fun _ _ _ _ _ r h => by simp [spec_Times.l0] at h, fun _ _ _ _ _ _ _ _ r h => by simp [spec_Times.l1] at h, fun _ _ _ _ _ _ _ _ _ _ _ r h => by simp [spec_Times.l2] at h⟩
  | k + 1 => by
    obtain ⟨ih0, ih1, ih2⟩ := spec_Times.mono_l k
    refine ⟨?_, ?_, ?_⟩
    · intro y0 y1 y2 y3 y4
      unfold spec_Times.l0
      repeat' first
      | (with_reducible exact ih0 _ _ _ _ _)
      | (with_reducible exact ih1 _ _ _ _ _ _ _ _)
      | (with_reducible exact ih2 _ _ _ _ _ _ _ _ _ _ _)
      | (with_reducible exact spec_Mul.mono _ _ _)
      | (with_reducible exact spec_Zeros.mono _ _ _)
      | (with_reducible exact LeO.refl _)
      | (with_reducible exact LeO.none _)
      | (with_reducible refine LeO.ite ?_ ?_)
      | (with_reducible refine LeO.bind ?_ (fun _ => ?_))
      | exact ih0 _ _ _ _ _
      | exact ih1 _ _ _ _ _ _ _ _
      | exact ih2 _ _ _ _ _ _ _ _ _ _ _
      | exact spec_Mul.mono _ _ _
      | exact spec_Zeros.mono _ _ _
      | exact LeO.none _
      | refine LeO.ite ?_ ?_
      | refine LeO.bind ?_ (fun _ => ?_)
    · intro y0 y1 y2 y3 y4 y5 y6 y7
      unfold spec_Times.l1
      repeat' first
      | (with_reducible exact ih0 _ _ _ _ _)
      | (with_reducible exact ih1 _ _ _ _ _ _ _ _)
      | (with_reducible exact ih2 _ _ _ _ _ _ _ _ _ _ _)
      | (with_reducible exact spec_Mul.mono _ _ _)
      | (with_reducible exact spec_Zeros.mono _ _ _)
      | (with_reducible exact LeO.refl _)
      | (with_reducible exact LeO.none _)
      | (with_reducible refine LeO.ite ?_ ?_)
      | (with_reducible refine LeO.bind ?_ (fun _ => ?_))
      | exact ih0 _ _ _ _ _
      | exact ih1 _ _ _ _ _ _ _ _
      | exact ih2 _ _ _ _ _ _ _ _ _ _ _
      | exact spec_Mul.mono _ _ _
      | exact spec_Zeros.mono _ _ _
      | exact LeO.none _
      | refine LeO.ite ?_ ?_
      | refine LeO.bind ?_ (fun _ => ?_)
    · intro y0 y1 y2 y3 y4 y5 y6 y7 y8 y9 y10
      unfold spec_Times.l2
      repeat' first
      | (with_reducible exact ih0 _ _ _ _ _)
      | (with_reducible exact ih1 _ _ _ _ _ _ _ _)
      | (with_reducible exact ih2 _ _ _ _ _ _ _ _ _ _ _)
      | (with_reducible exact spec_Mul.mono _ _ _)
      | (with_reducible exact spec_Zeros.mono _ _ _)
      | (with_reducible exact LeO.refl _)
      | (with_reducible exact LeO.none _)
      | (with_reducible refine LeO.ite ?_ ?_)
      | (with_reducible refine LeO.bind ?_ (fun _ => ?_))
      | exact ih0 _ _ _ _ _
      | exact ih1 _ _ _ _ _ _ _ _
      | exact ih2 _ _ _ _ _ _ _ _ _ _ _
      | exact spec_Mul.mono _ _ _
      | exact spec_Zeros.mono _ _ _
      | exact LeO.none _
      | refine LeO.ite ?_ ?_
      | refine LeO.bind ?_ (fun _ => ?_)
theorem spec_Times.mono : ∀ a0 a1 k, LeO (spec_Times.f k a0 a1) (spec_Times.f (k + 1) a0 a1) := by
  intro a0 a1 k
  obtain ⟨ih0, ih1, ih2⟩ := spec_Times.mono_l k
  unfold spec_Times.f
  repeat' first
      | (with_reducible exact ih0 _ _ _ _ _)
      | (with_reducible exact ih1 _ _ _ _ _ _ _ _)
      | (with_reducible exact ih2 _ _ _ _ _ _ _ _ _ _ _)
      | (with_reducible exact spec_Mul.mono _ _ _)
      | (with_reducible exact spec_Zeros.mono _ _ _)
      | (with_reducible exact LeO.refl _)
      | (with_reducible exact LeO.none _)
      | (with_reducible refine LeO.ite ?_ ?_)
      | (with_reducible refine LeO.bind ?_ (fun _ => ?_))
      | exact ih0 _ _ _ _ _
      | exact ih1 _ _ _ _ _ _ _ _
      | exact ih2 _ _ _ _ _ _ _ _ _ _ _
      | exact spec_Mul.mono _ _ _
      | exact spec_Zeros.mono _ _ _
      | exact LeO.none _
      | refine LeO.ite ?_ ?_
      | refine LeO.bind ?_ (fun _ => ?_)
def spec_Times.T11 : Bool × List (List Nat × List Nat) := (true, [([], []), ([], []), ([0, 1], [0, 1]), ([2], [2]), ([], []), ([3, 4], [3, 4]), ([5], [5]), ([], []), ([], []), ([7, 8], [7, 8]), ([9], [9]), ([], []), ([10, 11], [10, 11]), ([12], [12]), ([], []), ([], []), ([14, 15], [14, 15]), ([16], [16]), ([], []), ([17, 18], [17, 18]), ([19], [19]), ([13, 20], [13, 20]), ([6, 21], [6, 21]), ([3, 4, 0, 1, 2, 3, 4, 5, 6, 7, 8, 9, 10, 11, 12, 13, 14, 15, 16, 17, 18, 19, 20, 21, 22], [3, 4]), ([23, 22, 21, 0, 1, 2, 3, 4, 5, 6, 7, 8, 9, 10, 11, 12, 13, 14, 15, 16, 17, 18, 19, 20, 21, 22], [22, 23])])
def spec_Times.B11 : List Nat := [0, 0, 3, 7, 0, 31, 63, 0, 0, 384, 896, 0, 3968, 8064, 0, 0, 49152, 114688, 0, 507904, 1032192, 2097024, 4194303, 8388607, 16777215]
theorem spec_Times.tab11 : rtab .any (opsOf Tryd.f19 11) = spec_Times.T11 := by kernel_rfl
theorem spec_Times.bits11 : waitsOk spec_Times.T11.2 spec_Times.B11 = true := by kernel_rfl
set_option maxHeartbeats 8000000 in
set_option maxRecDepth 100000 in
theorem spec_Times.calls (k : Nat) (A0 : Option Addr) (c0 : Nat) (l0 : List (List Int)) (A1 : Option Addr) (c1 : Nat) (l1 : List (List Int)) (r : List (List Int)) (w : World) (hr0 : Kd.C (Kd.slice 5 (Kd.int .u8)) w A0 l0.length l0) (hc0 : l0.length ≤ c0) (hr1 : Kd.C (Kd.slice 5 (Kd.int .u8)) w A1 l1.length l1) (hc1 : l1.length ≤ c1) (h : spec_Times.f k l0 l1 = some r) :
    Calls Tryd.prog 19 #[.slice A0 l0.length c0, .slice A1 l1.length c1] w fun e w' => ∃ v0_ : Value, e = .returned (v0_) ∧ Kd.S (Kd.slice 5 (Kd.int .u8)) 25 w' w.heap.size (fun _ => True) v0_ r ∧ Below w.heap.size w w' := by
  have HR0 := Aside0.mk hr0
  have HC0 := Aside0.mk hc0
  clear hr0 hc0
  have HR1 := Aside0.mk hr1
  have HC1 := Aside0.mk hc1
  clear hr1 hc1
  have HB := Aside0.mk (Below.refl w.heap.size w)
  have H : ((spec_Columns.f l1).bind fun t147 => ((spec_Zeros.f k (l0.length : Int) t147).bind fun t148 => (spec_Times.l0 k l0 l1 t148 (l0.length : Int) 0))) = some r := h
  clear h
  replace H := Option.bind_eq_some_iff.mp H
  obtain ⟨t147, A30, H⟩ := H
  replace H : ((spec_Zeros.f k (l0.length : Int) t147).bind fun t148 => (spec_Times.l0 k l0 l1 t148 (l0.length : Int) 0)) = some r := H
  have A3 := Aside0.mk A30
  clear A30
  replace H := Option.bind_eq_some_iff.mp H
  obtain ⟨t148, A40, H⟩ := H
  replace H : (spec_Times.l0 k l0 l1 t148 (l0.length : Int) 0) = some r := H
  have A4 := Aside0.mk A40
  clear A40
  have H' := Aside0.mk H
  clear H
  go_enter Tryd.func19, Tryd.ntmps19
  go_wp2_with (first | ((with_reducible refine gate_callee (f := 24) rfl ?_); refine goesL_ (some 12) rfl rfl Tryd.func24 (by kernel_rfl) rfl #[.slice A1 l1.length c1] rfl (by (try simp only [List.map_toArray, List.map_cons, List.map_nil]); first | done | rfl | (simp only [List.length_drop, List.length_take]; rfl)) ?_; (with_reducible refine (spec_Columns.calls _ _ l1 t147 _ ?side1 ?side2 A3.out).mono ?_); (case side1 => repeat (first | exact HR1.out | (with_reducible refine Kd.C_alloc ?_ _) | (with_reducible refine Kd.C_drewN ?_ _) | (with_reducible refine Kd.C_drew ?_))); (case side2 => exact HC1.out); rintro e w' ⟨rfl, ⟨nd, rfl⟩⟩; refine ⟨_, rfl, ?_⟩) | ((with_reducible refine gate_callee (f := 35) rfl ?_); refine goesL_ (some 13) rfl rfl Tryd.func35 (by kernel_rfl) rfl #[.int .i64 (l0.length : Int), .int .i64 t147] rfl (by (try simp only [List.map_toArray, List.map_cons, List.map_nil]); first | done | rfl | (simp only [List.length_drop, List.length_take]; rfl)) ?_; (with_reducible refine (spec_Zeros.calls k (l0.length : Int) t147 t148 _ A4.out).mono ?_); rintro e w5 ⟨v149, rfl, ho0, hb⟩; refine ⟨_, rfl, ?_⟩; have n0_ := Aside0.mk (Kd.S_lower ho0 (below_size (by repeat (first | (with_reducible first | exact HB.out | apply below_alloc | apply pw_below_drewN | apply below_drew1) | exact HB.out)))); have n1_ := Aside0.mk (below_step (by repeat (first | (with_reducible first | exact HB.out | apply below_alloc | apply pw_below_drewN | apply below_drew1) | exact HB.out)) hb); clear HB; have HO150 := n0_; have HB := n1_; clear n0_ n1_; (try clear hb); (try clear hb2); (try clear hk); (try clear hi); (try clear ho0)))
  try simp only [Act.put, List.setIfInBounds_toArray, List.set_cons_zero, List.set_cons_succ]
  go_loopg [16] k (fun kq v16 w' => ∃ (x5_1 : List (List Int)) (x16_1 : Int), v16 = .int .i64 x16_1 ∧ Aside0 (spec_Times.l0 kq l0 l1 x5_1 (l0.length : Int) x16_1 = some r) ∧ Aside0 (kq ≤ k) ∧ Aside0 (Kd.S (Kd.slice 5 (Kd.int .u8)) 25 w' w.heap.size (fun _ => True) v149 x5_1) ∧ Aside0 (Below w.heap.size w w'))
  case atStart => exact ⟨(t148), (0), (by first | rfl | (simp; done) | (simp [*]; done)), H', ⟨Nat.le_refl _⟩, ⟨by (with_reducible repeat (first | apply Kd.S_alloc | apply Kd.S_drewN | apply Kd.S_drew)); exact HO150.out⟩, ⟨by repeat (first | (with_reducible first | exact HB.out | apply below_alloc | apply pw_below_drewN | apply below_drew1) | exact HB.out)⟩⟩
  case round =>
    clear H'
    try clear c1
    try clear c2
    try clear p2
    try clear c3
    obtain ⟨x5_1, x16_1, rfl, HA, HK1, HO_5, HB⟩ := hrel
    cases gk with
    | zero => exact absurd HA.out (by simp [spec_Times.l0])
    | succ k1 =>
      have H := HA.out
      clear HA
      simp only [spec_Times.l0] at H
      by_cases c6 : x16_1 < (l0.length : Int)
      · rw [if_pos c6] at H
        have c6b0 : decide (x16_1 < (l0.length : Int)) = true := decide_eq_true c6
        clear c6
        by_cases c7 : 0 ≤ x16_1
        · rw [if_pos c7] at H
          have c7b0 : decide (0 ≤ x16_1) = true := decide_eq_true c7
          clear c7
          by_cases c8 : x16_1 < (x5_1.length : Int)
          · rw [if_pos c8] at H
            have c8b0 : decide (x16_1 < (x5_1.length : Int)) = true := decide_eq_true c8
            clear c8
            have H' := Aside0.mk H
            clear H
            obtain ⟨Ao9, co9, eo9⟩ := Kd.S_slice HO_5.out
            subst eo9
            have p151 : 0 ≤ (x16_1 : Int) := of_decide_eq_true (by first | (with_reducible assumption) | assumption)
            have q151 : x16_1 < (x5_1.length : Int) := of_decide_eq_true (by first | (with_reducible assumption) | assumption)
            obtain ⟨ad151, A151_0, c151_0, e151, hx151_0, hl151_0, hi151_0⟩ := at_L1 (Kd.S_reads' HO_5.out).2.2 x16_1 p151 q151
            cases e151
            obtain ⟨ce151, hce151, hMe151, hcc151⟩ := Kd.S_get HO_5.out [] x16_1 p151 (by first | exact q151 | exact of_decide_eq_true (by first | (with_reducible assumption) | assumption) | (have e_ := (Kd.S_reads' HO_5.out).1; omega))
            obtain ⟨ve151_0, rfl, ge151_0⟩ := hMe151
            have hv151_0 := hcc151 0 _ rfl
            rw [Nat.add_zero, show ((Kd.slice 5 (Kd.int .u8))).sz = 1 from rfl, Nat.mul_one] at hv151_0
            replace hv151_0 := Option.some.inj (hv151_0.symm.trans hx151_0)
            rw [hv151_0] at ge151_0
            have HL151_0 := Aside0.mk (show Kd.R (Kd.int .u8) 5 _ _ _ _ (rd_L1 x5_1 x16_1) from ge151_0)
            clear hv151_0 ge151_0
            have HX151_0 := Aside0.mk hx151_0
            clear hcc151 hce151
            have HR151_0 := Aside0.mk hi151_0
            have HC151_0 := Aside0.mk hl151_0
            clear hi151_0 hl151_0
            replace p151 := eq_true p151
            replace q151 := eq_true q151
            go_wp2
            try simp only [Act.put, List.setIfInBounds_toArray, List.set_cons_zero, List.set_cons_succ]
            go_loopg [24] k1 (fun kq v24 w' => ∃ (x5_2 : List (List Int)) (x24_2 : Int), v24 = .int .i64 x24_2 ∧ Aside0 (spec_Times.l1 kq l0 l1 x5_2 x16_1 (l0.length : Int) x16_1 ((rd_L1 x5_1 x16_1).length : Int) x24_2 = some r) ∧ Aside0 (kq ≤ k1) ∧ Aside0 (Kd.S (Kd.slice 5 (Kd.int .u8)) 25 w' w.heap.size (fun _ => True) (.slice (some ad151) x5_1.length co9) x5_2) ∧ Aside0 (Below w.heap.size w w'))
            case atStart => exact ⟨(x5_1), (0), (by first | rfl | (simp; done) | (simp [*]; done)), H', ⟨Nat.le_refl _⟩, ⟨by (with_reducible repeat (first | apply Kd.S_alloc | apply Kd.S_drewN | apply Kd.S_drew)); exact HO_5.out⟩, ⟨by repeat (first | (with_reducible first | exact HB.out | apply below_alloc | apply pw_below_drewN | apply below_drew1) | exact HB.out)⟩⟩
            case round =>
              clear H'
              try clear c1
              try clear p1
              try clear q1
              try clear hx1
              try clear c2
              try clear p2
              try clear c3
              try clear c6
              try clear c6b0
              try clear c7
              try clear c7b0
              try clear c8
              try clear c8b0
              try clear hx151_0
              try clear p151
              try clear p2
              try clear q151
              obtain ⟨x5_2, x24_2, rfl, HA, HK2, HO_5, HB⟩ := hrel
              have hl5_2 := (Kd.S_reads' HO_5.out).1
              rw [hl5_2] at HO_5
              (try simp only [hl5_2])
              cases gk with
              | zero => exact absurd HA.out (by simp [spec_Times.l1])
              | succ k2 =>
                have H := HA.out
                clear HA
                simp only [spec_Times.l1] at H
                by_cases c10 : x24_2 < ((rd_L1 x5_1 x16_1).length : Int)
                · rw [if_pos c10] at H
                  have c10b0 : decide (x24_2 < ((rd_L1 x5_1 x16_1).length : Int)) = true := decide_eq_true c10
                  clear c10
                  have H' := Aside0.mk H
                  clear H
                  go_wp2
                  try simp only [Act.put, List.setIfInBounds_toArray, List.set_cons_zero, List.set_cons_succ]
                  go_loopg [29] k2 (fun kq v29 w' => ∃ (x5_3 : List (List Int)) (x29_3 : Int), v29 = .int .i64 x29_3 ∧ Aside0 (spec_Times.l2 kq l0 l1 x5_3 x16_1 x24_2 (l0.length : Int) x16_1 ((rd_L1 x5_1 x16_1).length : Int) x24_2 (l1.length : Int) x29_3 = some r) ∧ Aside0 (kq ≤ k2) ∧ Aside0 (Kd.S (Kd.slice 5 (Kd.int .u8)) 25 w' w.heap.size (fun _ => True) (.slice (some ad151) x5_2.length co9) x5_3) ∧ Aside0 (Below w.heap.size w w'))
                  case atStart => exact ⟨(x5_2), (0), (by first | rfl | (simp; done) | (simp [*]; done)), H', ⟨Nat.le_refl _⟩, ⟨by (try simp only [hl5_2]); (with_reducible repeat (first | apply Kd.S_alloc | apply Kd.S_drewN | apply Kd.S_drew)); exact HO_5.out⟩, ⟨by repeat (first | (with_reducible first | exact HB.out | apply below_alloc | apply pw_below_drewN | apply below_drew1) | exact HB.out)⟩⟩
                  case round =>
                    clear H'
                    try clear c1
                    try clear p1
                    try clear q1
                    try clear hx1
                    try clear c2
                    try clear p2
                    try clear c3
                    try clear c6
                    try clear c6b0
                    try clear c7
                    try clear c7b0
                    try clear c8
                    try clear c8b0
                    try clear c10
                    try clear c10b0
                    try clear hx151_0
                    try clear p1
                    try clear p151
                    try clear p2
                    try clear q1
                    try clear q151
                    obtain ⟨x5_3, x29_3, rfl, HA, HK3, HO_5, HB⟩ := hrel
                    have hl5_3 := (Kd.S_reads' HO_5.out).1
                    rw [hl5_3] at HO_5
                    (try simp only [hl5_3])
                    cases gk with
                    | zero => exact absurd HA.out (by simp [spec_Times.l2])
                    | succ k3 =>
                      have H := HA.out
                      clear HA
                      simp only [spec_Times.l2] at H
                      by_cases c11 : x29_3 < (l1.length : Int)
                      · rw [if_pos c11] at H
                        have c11b0 : decide (x29_3 < (l1.length : Int)) = true := decide_eq_true c11
                        clear c11
                        by_cases c12 : 0 ≤ x16_1
                        · rw [if_pos c12] at H
                          have c12b0 : decide (0 ≤ x16_1) = true := decide_eq_true c12
                          clear c12
                          by_cases c13 : x16_1 < (x5_3.length : Int)
                          · rw [if_pos c13] at H
                            have c13b0 : decide (x16_1 < (x5_3.length : Int)) = true := decide_eq_true c13
                            clear c13
                            by_cases c14 : 0 ≤ x24_2
                            · rw [if_pos c14] at H
                              have c14b0 : decide (0 ≤ x24_2) = true := decide_eq_true c14
                              clear c14
                              by_cases c15 : x24_2 < ((rd_L1 x5_3 x16_1).length : Int)
                              · rw [if_pos c15] at H
                                have c15b0 : decide (x24_2 < ((rd_L1 x5_3 x16_1).length : Int)) = true := decide_eq_true c15
                                clear c15
                                by_cases c16 : x16_1 < (l0.length : Int)
                                · rw [if_pos c16] at H
                                  have c16b0 : decide (x16_1 < (l0.length : Int)) = true := decide_eq_true c16
                                  clear c16
                                  by_cases c17 : 0 ≤ x29_3
                                  · rw [if_pos c17] at H
                                    have c17b0 : decide (0 ≤ x29_3) = true := decide_eq_true c17
                                    clear c17
                                    by_cases c18 : x29_3 < ((rd_L1 l0 x16_1).length : Int)
                                    · rw [if_pos c18] at H
                                      have c18b0 : decide (x29_3 < ((rd_L1 l0 x16_1).length : Int)) = true := decide_eq_true c18
                                      clear c18
                                      by_cases c19 : x29_3 < (l1.length : Int)
                                      · rw [if_pos c19] at H
                                        have c19b0 : decide (x29_3 < (l1.length : Int)) = true := decide_eq_true c19
                                        clear c19
                                        by_cases c20 : x24_2 < ((rd_L1 l1 x29_3).length : Int)
                                        · rw [if_pos c20] at H
                                          have c20b0 : decide (x24_2 < ((rd_L1 l1 x29_3).length : Int)) = true := decide_eq_true c20
                                          clear c20
                                          replace H := Option.bind_eq_some_iff.mp H
                                          obtain ⟨t158, A210, H⟩ := H
                                          replace H : (spec_Times.l2 k3 l0 l1 (x5_3.set (x16_1 : Int).toNat ((rd_L1 x5_3 x16_1).set (x24_2 : Int).toNat (Go.bits .xor .u8 (rd (rd_L1 x5_3 x16_1) x24_2) t158))) x16_1 x24_2 (l0.length : Int) x16_1 ((rd_L1 x5_1 x16_1).length : Int) x24_2 (l1.length : Int) (wrap64 (x29_3 + 1))) = some r := H
                                          have A21 := Aside0.mk A210
                                          clear A210
                                          obtain ⟨y159, hy159⟩ : ∃ y_ : List Int, y_ = ((rd_L1 x5_3 x16_1).set (x24_2 : Int).toNat (Go.bits .xor .u8 (rd (rd_L1 x5_3 x16_1) x24_2) t158)) := ⟨_, rfl⟩
                                          replace H : (spec_Times.l2 k3 l0 l1 (x5_3.set (x16_1 : Int).toNat y159) x16_1 x24_2 (l0.length : Int) x16_1 ((rd_L1 x5_1 x16_1).length : Int) x24_2 (l1.length : Int) (wrap64 (x29_3 + 1))) = some r := by first | (rw [hy159]; with_reducible exact H) | (have H2_ := (Option.bind_some _ _).symm.trans H; rw [hy159]; with_reducible exact H2_) | (have H2_ := (Option.bind_some _ _).symm.trans H; with_reducible exact H2_) | with_reducible exact H | (rw [hy159]; exact H) | exact H
                                          have Ny159 := Aside0.mk hy159
                                          clear hy159
                                          obtain ⟨y161, hy161⟩ : ∃ y_ : List (List Int), y_ = (x5_3.set (x16_1 : Int).toNat y159) := ⟨_, rfl⟩
                                          replace H : (spec_Times.l2 k3 l0 l1 y161 x16_1 x24_2 (l0.length : Int) x16_1 ((rd_L1 x5_1 x16_1).length : Int) x24_2 (l1.length : Int) (wrap64 (x29_3 + 1))) = some r := by first | (rw [hy161]; with_reducible exact H) | (have H2_ := (Option.bind_some _ _).symm.trans H; rw [hy161]; with_reducible exact H2_) | (have H2_ := (Option.bind_some _ _).symm.trans H; with_reducible exact H2_) | with_reducible exact H | (rw [hy161]; exact H) | exact H
                                          have Ny161 := Aside0.mk hy161
                                          clear hy161
                                          have H' := Aside0.mk H
                                          clear H
                                          try go_wp2
                                          (try (rw [drewN_self wr]; generalize hq_ : World.drewN wr _ = wr; have n0_ : Aside0 (Kd.S (Kd.slice 5 (Kd.int .u8)) 25 wr w.heap.size (fun _ => True) (.slice (some ad151) x5_3.length co9) x5_3) := ⟨by rw [← hq_]; exact (by (with_reducible repeat (first | apply Kd.S_alloc | apply Kd.S_drewN | apply Kd.S_drew)); exact HO_5.out)⟩; have n1_ : Aside0 (Below w.heap.size w wr) := ⟨by rw [← hq_]; exact (by repeat (first | (with_reducible first | exact HB.out | apply below_alloc | apply pw_below_drewN | apply below_drew1) | exact HB.out))⟩; clear HO_5 HB hq_; have HO_5 := n0_; have HB := n1_; clear n0_ n1_))
                                          have n0_ := Aside0.mk (Kd.S_drew HO_5.out)
                                          have n1_ := Aside0.mk (below_drew1 HB.out)
                                          clear HO_5
                                          clear HB
                                          have HO_5 := n0_
                                          have HB := n1_
                                          clear n0_ n1_
                                          have p152 : 0 ≤ (x16_1 : Int) := of_decide_eq_true (by first | (with_reducible assumption) | assumption)
                                          have q152 : x16_1 < (x5_3.length : Int) := of_decide_eq_true (by first | (with_reducible assumption) | assumption)
                                          obtain ⟨ad152, A152_0, c152_0, e152, hx152_0, hl152_0, hi152_0⟩ := at_L1 (Kd.S_reads' HO_5.out).2.2 x16_1 p152 q152
                                          obtain rfl : ad151 = ad152 := (by injection e152)
                                          obtain ⟨ce152, hce152, hMe152, hcc152⟩ := Kd.S_get HO_5.out [] x16_1 p152 (by first | exact q152 | exact of_decide_eq_true (by first | (with_reducible assumption) | assumption) | (have e_ := (Kd.S_reads' HO_5.out).1; omega))
                                          obtain ⟨ve152_0, rfl, ge152_0⟩ := hMe152
                                          have hv152_0 := hcc152 0 _ rfl
                                          rw [Nat.add_zero, show ((Kd.slice 5 (Kd.int .u8))).sz = 1 from rfl, Nat.mul_one] at hv152_0
                                          replace hv152_0 := Option.some.inj (hv152_0.symm.trans hx152_0)
                                          rw [hv152_0] at ge152_0
                                          have HL152_0 := Aside0.mk (show Kd.R (Kd.int .u8) 5 _ _ _ _ (rd_L1 x5_3 x16_1) from ge152_0)
                                          clear hv152_0 ge152_0
                                          have HX152_0 := Aside0.mk hx152_0
                                          clear hcc152 hce152
                                          have HR152_0 := Aside0.mk hi152_0
                                          have HC152_0 := Aside0.mk hl152_0
                                          clear hi152_0 hl152_0
                                          replace p152 := eq_true p152
                                          replace q152 := eq_true q152
                                          have p153 : 0 ≤ (x24_2 : Int) := of_decide_eq_true (by first | (with_reducible assumption) | assumption)
                                          have q153 : x24_2 < ((rd_L1 x5_3 x16_1).length : Int) := of_decide_eq_true (by first | (with_reducible assumption) | assumption)
                                          obtain ⟨ad153, e153, hx153_0⟩ := Kd.at_int (by repeat (first | (with_reducible exact HR152_0.out) | (with_reducible refine Kd.C_alloc ?_ _) | (with_reducible refine Kd.C_drewN ?_ _) | (with_reducible refine Kd.C_drew ?_) | exact HR152_0.out)) x24_2 p153 q153
                                          cases e153
                                          replace p153 := eq_true p153
                                          replace q153 := eq_true q153
                                          have p154 : 0 ≤ (x16_1 : Int) := of_decide_eq_true (by first | (with_reducible assumption) | assumption)
                                          have q154 : x16_1 < (l0.length : Int) := of_decide_eq_true (by first | (with_reducible assumption) | assumption)
                                          obtain ⟨ad154, A154_0, c154_0, e154, hx154_0, hl154_0, hi154_0⟩ := at_L1 HR0.out x16_1 p154 q154
                                          have hw154_0 := hx154_0
                                          cases e154
                                          replace hx154_0 := (HB.out.cell (World.block_lt_of_cell? w _ hx154_0)).trans hx154_0
                                          have HR154_0 := Aside0.mk hi154_0
                                          have HC154_0 := Aside0.mk hl154_0
                                          clear hi154_0 hl154_0
                                          replace p154 := eq_true p154
                                          replace q154 := eq_true q154
                                          have p155 : 0 ≤ (x29_3 : Int) := of_decide_eq_true (by first | (with_reducible assumption) | assumption)
                                          have q155 : x29_3 < ((rd_L1 l0 x16_1).length : Int) := of_decide_eq_true (by first | (with_reducible assumption) | assumption)
                                          obtain ⟨ad155, e155, hx155_0⟩ := Kd.at_int HR154_0.out x29_3 p155 q155
                                          have hw155_0 := hx155_0
                                          cases e155
                                          replace hx155_0 := (HB.out.cell (World.block_lt_of_cell? w _ hx155_0)).trans hx155_0
                                          replace p155 := eq_true p155
                                          replace q155 := eq_true q155
                                          have p156 : 0 ≤ (x29_3 : Int) := of_decide_eq_true (by first | (with_reducible assumption) | assumption)
                                          have q156 : x29_3 < (l1.length : Int) := of_decide_eq_true (by first | (with_reducible assumption) | assumption)
                                          obtain ⟨ad156, A156_0, c156_0, e156, hx156_0, hl156_0, hi156_0⟩ := at_L1 HR1.out x29_3 p156 q156
                                          have hw156_0 := hx156_0
                                          cases e156
                                          replace hx156_0 := (HB.out.cell (World.block_lt_of_cell? w _ hx156_0)).trans hx156_0
                                          have HR156_0 := Aside0.mk hi156_0
                                          have HC156_0 := Aside0.mk hl156_0
                                          clear hi156_0 hl156_0
                                          replace p156 := eq_true p156
                                          replace q156 := eq_true q156
                                          have p157 : 0 ≤ (x24_2 : Int) := of_decide_eq_true (by first | (with_reducible assumption) | assumption)
                                          have q157 : x24_2 < ((rd_L1 l1 x29_3).length : Int) := of_decide_eq_true (by first | (with_reducible assumption) | assumption)
                                          obtain ⟨ad157, e157, hx157_0⟩ := Kd.at_int HR156_0.out x24_2 p157 q157
                                          have hw157_0 := hx157_0
                                          cases e157
                                          replace hx157_0 := (HB.out.cell (World.block_lt_of_cell? w _ hx157_0)).trans hx157_0
                                          replace p157 := eq_true p157
                                          replace q157 := eq_true q157
                                          refine start_ (n := 25) (S := fun w' => w'.cell? (ad151.add (x16_1).toNat) = some (.slice (some ad153) (rd_L1 x5_3 x16_1).length c152_0) ∧ w'.cell? (ad153.add (x24_2).toNat) = some (.int .u8 (rd (rd_L1 x5_3 x16_1) x24_2)) ∧ w'.cell? (ad154.add (x16_1).toNat) = some (.slice (some ad155) (rd_L1 l0 x16_1).length c154_0) ∧ w'.cell? (ad155.add (x29_3).toNat) = some (.int .u8 (rd (rd_L1 l0 x16_1) x29_3)) ∧ w'.cell? (ad156.add (x29_3).toNat) = some (.slice (some ad157) (rd_L1 l1 x29_3).length c156_0) ∧ w'.cell? (ad157.add (x24_2).toNat) = some (.int .u8 (rd (rd_L1 l1 x29_3) x24_2))) (ds := [24]) #[false, false, false, false, false, false, false, false, false, false, false, false, false, false, false, false, false, false, false, false, false, false, false, false, false] (by kernel_rfl) rfl rfl ⟨hx152_0, hx153_0, ((HB.out.cell (World.block_lt_of_cell? w _ hw154_0)).trans hw154_0), ((HB.out.cell (World.block_lt_of_cell? w _ hw155_0)).trans hw155_0), ((HB.out.cell (World.block_lt_of_cell? w _ hw156_0)).trans hw156_0), ((HB.out.cell (World.block_lt_of_cell? w _ hw157_0)).trans hw157_0)⟩ (fun hHeld => ?_); refine with_tabW spec_Times.tab11 spec_Times.bits11 (fun HT_ HW_ => ?_)
                                          generalize wr.drew = w23 at HO_5 HB HL152_0 HR152_0 HR154_0 HR156_0 HX152_0 hx152_0 hx153_0 hx154_0 hx155_0 hx156_0 hx157_0 hHeld ⊢
                                          refine pure_ (i := 0) (N := some 32) (v := ?_) (a' := ?_) #[true, false, false, false, false, false, false, false, false, false, false, false, false, false, false, false, false, false, false, false, false, false, false, false, false] rfl rfl (any_of HT_.out (by kernel_rfl)) (fun _ _ _ h => h) (Or.inl ⟨by rfl, ?_⟩) ?_ ?_
                                          rotate_left
                                          · intro w'
                                            go_simp
                                            with_reducible rfl
                                          rotate_left
                                          · simp only [Act.put, List.setIfInBounds_toArray, List.set_cons_zero, List.set_cons_succ, i64_w, i32_w]
                                            rfl
                                          refine pure_ (i := 1) (N := some 33) (v := ?_) (a' := ?_) #[true, true, false, false, false, false, false, false, false, false, false, false, false, false, false, false, false, false, false, false, false, false, false, false, false] rfl rfl (any_of HT_.out (by kernel_rfl)) (fun _ _ _ h => h) (Or.inl ⟨by rfl, ?_⟩) ?_ ?_
                                          rotate_left
                                          · intro w'
                                            go_simp
                                            with_reducible rfl
                                          rotate_left
                                          · simp only [Act.put, List.setIfInBounds_toArray, List.set_cons_zero, List.set_cons_succ, i64_w, i32_w]
                                            rfl
                                          refine pure_ (i := 2) (N := some 34) (v := ?_) (a' := ?_) #[true, true, true, false, false, false, false, false, false, false, false, false, false, false, false, false, false, false, false, false, false, false, false, false, false] rfl rfl (any_of HT_.out (by kernel_rfl)) (fun _ _ _ h => h) (Or.inl ⟨by rfl, ?_⟩) ?_ ?_
                                          rotate_left
                                          · intro w'
                                            go_simp
                                            with_reducible rfl
                                          rotate_left
                                          · simp only [Act.put, List.setIfInBounds_toArray, List.set_cons_zero, List.set_cons_succ, i64_w, i32_w]
                                            rfl
                                          refine pure_ (i := 4) (N := some 36) (v := ?_) (a' := ?_) #[true, true, true, false, true, false, false, false, false, false, false, false, false, false, false, false, false, false, false, false, false, false, false, false, false] rfl rfl (any_of HT_.out (by kernel_rfl)) (fun _ _ _ h => h) (Or.inl ⟨by rfl, ?_⟩) ?_ ?_
                                          rotate_left
                                          · intro w'
                                            go_simp
                                            with_reducible rfl
                                          rotate_left
                                          · simp only [Act.put, List.setIfInBounds_toArray, List.set_cons_zero, List.set_cons_succ, i64_w, i32_w]
                                            rfl
                                          refine pure_ (i := 7) (N := some 39) (v := ?_) (a' := ?_) #[true, true, true, false, true, false, false, true, false, false, false, false, false, false, false, false, false, false, false, false, false, false, false, false, false] rfl rfl (any_of HT_.out (by kernel_rfl)) (fun _ _ _ h => h) (Or.inl ⟨by rfl, ?_⟩) ?_ ?_
                                          rotate_left
                                          · intro w'
                                            go_simp
                                            with_reducible rfl
                                          rotate_left
                                          · simp only [Act.put, List.setIfInBounds_toArray, List.set_cons_zero, List.set_cons_succ, i64_w, i32_w]
                                            rfl
                                          refine pure_ (i := 8) (N := some 40) (v := ?_) (a' := ?_) #[true, true, true, false, true, false, false, true, true, false, false, false, false, false, false, false, false, false, false, false, false, false, false, false, false] rfl rfl (any_of HT_.out (by kernel_rfl)) (fun _ _ _ h => h) (Or.inl ⟨by rfl, ?_⟩) ?_ ?_
                                          rotate_left
                                          · intro w'
                                            go_simp
                                            with_reducible rfl
                                          rotate_left
                                          · simp only [Act.put, List.setIfInBounds_toArray, List.set_cons_zero, List.set_cons_succ, i64_w, i32_w]
                                            rfl
                                          refine pure_ (i := 9) (N := some 41) (v := ?_) (a' := ?_) #[true, true, true, false, true, false, false, true, true, true, false, false, false, false, false, false, false, false, false, false, false, false, false, false, false] rfl rfl (any_of HT_.out (by kernel_rfl)) (fun _ _ _ h => h) (Or.inl ⟨by rfl, ?_⟩) ?_ ?_
                                          rotate_left
                                          · intro w'
                                            go_simp
                                            with_reducible rfl
                                          rotate_left
                                          · simp only [Act.put, List.setIfInBounds_toArray, List.set_cons_zero, List.set_cons_succ, i64_w, i32_w]
                                            rfl
                                          refine pure_ (i := 11) (N := some 43) (v := ?_) (a' := ?_) #[true, true, true, false, true, false, false, true, true, true, false, true, false, false, false, false, false, false, false, false, false, false, false, false, false] rfl rfl (any_of HT_.out (by kernel_rfl)) (fun _ _ _ h => h) (Or.inl ⟨by rfl, ?_⟩) ?_ ?_
                                          rotate_left
                                          · intro w'
                                            go_simp
                                            with_reducible rfl
                                          rotate_left
                                          · simp only [Act.put, List.setIfInBounds_toArray, List.set_cons_zero, List.set_cons_succ, i64_w, i32_w]
                                            rfl
                                          refine pure_ (i := 14) (N := some 46) (v := ?_) (a' := ?_) #[true, true, true, false, true, false, false, true, true, true, false, true, false, false, true, false, false, false, false, false, false, false, false, false, false] rfl rfl (any_of HT_.out (by kernel_rfl)) (fun _ _ _ h => h) (Or.inl ⟨by rfl, ?_⟩) ?_ ?_
                                          rotate_left
                                          · intro w'
                                            go_simp
                                            with_reducible rfl
                                          rotate_left
                                          · simp only [Act.put, List.setIfInBounds_toArray, List.set_cons_zero, List.set_cons_succ, i64_w, i32_w]
                                            rfl
                                          refine pure_ (i := 15) (N := some 47) (v := ?_) (a' := ?_) #[true, true, true, false, true, false, false, true, true, true, false, true, false, false, true, true, false, false, false, false, false, false, false, false, false] rfl rfl (any_of HT_.out (by kernel_rfl)) (fun _ _ _ h => h) (Or.inl ⟨by rfl, ?_⟩) ?_ ?_
                                          rotate_left
                                          · intro w'
                                            go_simp
                                            with_reducible rfl
                                          rotate_left
                                          · simp only [Act.put, List.setIfInBounds_toArray, List.set_cons_zero, List.set_cons_succ, i64_w, i32_w]
                                            rfl
                                          refine pure_ (i := 16) (N := some 48) (v := ?_) (a' := ?_) #[true, true, true, false, true, false, false, true, true, true, false, true, false, false, true, true, true, false, false, false, false, false, false, false, false] rfl rfl (any_of HT_.out (by kernel_rfl)) (fun _ _ _ h => h) (Or.inl ⟨by rfl, ?_⟩) ?_ ?_
                                          rotate_left
                                          · intro w'
                                            go_simp
                                            with_reducible rfl
                                          rotate_left
                                          · simp only [Act.put, List.setIfInBounds_toArray, List.set_cons_zero, List.set_cons_succ, i64_w, i32_w]
                                            rfl
                                          refine pure_ (i := 18) (N := some 50) (v := ?_) (a' := ?_) #[true, true, true, false, true, false, false, true, true, true, false, true, false, false, true, true, true, false, true, false, false, false, false, false, false] rfl rfl (any_of HT_.out (by kernel_rfl)) (fun _ _ _ h => h) (Or.inl ⟨by rfl, ?_⟩) ?_ ?_
                                          rotate_left
                                          · intro w'
                                            go_simp
                                            with_reducible rfl
                                          rotate_left
                                          · simp only [Act.put, List.setIfInBounds_toArray, List.set_cons_zero, List.set_cons_succ, i64_w, i32_w]
                                            rfl
                                          refine take_ (i := 3) (N := some 35) (v := ?_) (a' := ?_) #[true, true, true, true, true, false, false, true, true, true, false, true, false, false, true, true, true, false, true, false, false, false, false, false, false] rfl rfl (take_ofW HT_.out HW_.out (by kernel_rfl)) (fun _ _ _ h => h) (Or.inl ⟨by rfl, ?_⟩) hHeld ?_ ?_
                                          rotate_left
                                          · rintro w' ⟨s0, s1, s2, s3, s4, s5⟩
                                            go_simp
                                            with_reducible rfl
                                          rotate_left
                                          · simp only [Act.put, List.setIfInBounds_toArray, List.set_cons_zero, List.set_cons_succ, i64_w, i32_w]
                                            rfl
                                          refine pure_ (i := 5) (N := some 37) (v := ?_) (a' := ?_) #[true, true, true, true, true, true, false, true, true, true, false, true, false, false, true, true, true, false, true, false, false, false, false, false, false] rfl rfl (any_of HT_.out (by kernel_rfl)) (fun _ _ _ h => h) (Or.inl ⟨by rfl, ?_⟩) ?_ ?_
                                          rotate_left
                                          · intro w'
                                            go_simp
                                            with_reducible rfl
                                          rotate_left
                                          · simp only [Act.put, List.setIfInBounds_toArray, List.set_cons_zero, List.set_cons_succ, i64_w, i32_w]
                                            rfl
                                          refine take_ (i := 6) (N := some 38) (v := ?_) (a' := ?_) #[true, true, true, true, true, true, true, true, true, true, false, true, false, false, true, true, true, false, true, false, false, false, false, false, false] rfl rfl (take_ofW HT_.out HW_.out (by kernel_rfl)) (fun _ _ _ h => h) (Or.inl ⟨by rfl, ?_⟩) hHeld ?_ ?_
                                          rotate_left
                                          · rintro w' ⟨s0, s1, s2, s3, s4, s5⟩
                                            go_simp
                                            with_reducible rfl
                                          rotate_left
                                          · simp only [Act.put, List.setIfInBounds_toArray, List.set_cons_zero, List.set_cons_succ, i64_w, i32_w]
                                            rfl
                                          refine take_ (i := 10) (N := some 42) (v := ?_) (a' := ?_) #[true, true, true, true, true, true, true, true, true, true, true, true, false, false, true, true, true, false, true, false, false, false, false, false, false] rfl rfl (take_ofW HT_.out HW_.out (by kernel_rfl)) (fun _ _ _ h => h) (Or.inl ⟨by rfl, ?_⟩) hHeld ?_ ?_
                                          rotate_left
                                          · rintro w' ⟨s0, s1, s2, s3, s4, s5⟩
                                            go_simp
                                            with_reducible rfl
                                          rotate_left
                                          · simp only [Act.put, List.setIfInBounds_toArray, List.set_cons_zero, List.set_cons_succ, i64_w, i32_w]
                                            rfl
                                          refine pure_ (i := 12) (N := some 44) (v := ?_) (a' := ?_) #[true, true, true, true, true, true, true, true, true, true, true, true, true, false, true, true, true, false, true, false, false, false, false, false, false] rfl rfl (any_of HT_.out (by kernel_rfl)) (fun _ _ _ h => h) (Or.inl ⟨by rfl, ?_⟩) ?_ ?_
                                          rotate_left
                                          · intro w'
                                            go_simp
                                            with_reducible rfl
                                          rotate_left
                                          · simp only [Act.put, List.setIfInBounds_toArray, List.set_cons_zero, List.set_cons_succ, i64_w, i32_w]
                                            rfl
                                          refine take_ (i := 13) (N := some 45) (v := ?_) (a' := ?_) #[true, true, true, true, true, true, true, true, true, true, true, true, true, true, true, true, true, false, true, false, false, false, false, false, false] rfl rfl (take_ofW HT_.out HW_.out (by kernel_rfl)) (fun _ _ _ h => h) (Or.inl ⟨by rfl, ?_⟩) hHeld ?_ ?_
                                          rotate_left
                                          · rintro w' ⟨s0, s1, s2, s3, s4, s5⟩
                                            go_simp
                                            with_reducible rfl
                                          rotate_left
                                          · simp only [Act.put, List.setIfInBounds_toArray, List.set_cons_zero, List.set_cons_succ, i64_w, i32_w]
                                            rfl
                                          refine take_ (i := 17) (N := some 49) (v := ?_) (a' := ?_) #[true, true, true, true, true, true, true, true, true, true, true, true, true, true, true, true, true, true, true, false, false, false, false, false, false] rfl rfl (take_ofW HT_.out HW_.out (by kernel_rfl)) (fun _ _ _ h => h) (Or.inl ⟨by rfl, ?_⟩) hHeld ?_ ?_
                                          rotate_left
                                          · rintro w' ⟨s0, s1, s2, s3, s4, s5⟩
                                            go_simp
                                            with_reducible rfl
                                          rotate_left
                                          · simp only [Act.put, List.setIfInBounds_toArray, List.set_cons_zero, List.set_cons_succ, i64_w, i32_w]
                                            rfl
                                          refine pure_ (i := 19) (N := some 51) (v := ?_) (a' := ?_) #[true, true, true, true, true, true, true, true, true, true, true, true, true, true, true, true, true, true, true, true, false, false, false, false, false] rfl rfl (any_of HT_.out (by kernel_rfl)) (fun _ _ _ h => h) (Or.inl ⟨by rfl, ?_⟩) ?_ ?_
                                          rotate_left
                                          · intro w'
                                            go_simp
                                            with_reducible rfl
                                          rotate_left
                                          · simp only [Act.put, List.setIfInBounds_toArray, List.set_cons_zero, List.set_cons_succ, i64_w, i32_w]
                                            rfl
                                          refine take_ (i := 20) (N := some 52) (v := ?_) (a' := ?_) #[true, true, true, true, true, true, true, true, true, true, true, true, true, true, true, true, true, true, true, true, true, false, false, false, false] rfl rfl (take_ofW HT_.out HW_.out (by kernel_rfl)) (fun _ _ _ h => h) (Or.inl ⟨by rfl, ?_⟩) hHeld ?_ ?_
                                          rotate_left
                                          · rintro w' ⟨s0, s1, s2, s3, s4, s5⟩
                                            go_simp
                                            with_reducible rfl
                                          rotate_left
                                          · simp only [Act.put, List.setIfInBounds_toArray, List.set_cons_zero, List.set_cons_succ, i64_w, i32_w]
                                            rfl
                                          refine one_ (i := 21) (N := some 53) #[true, true, true, true, true, true, true, true, true, true, true, true, true, true, true, true, true, true, true, true, true, true, false, false, false] rfl rfl (one_of HT_.out (by kernel_rfl)) (by decide) (fun K hK => ?_)
                                          refine goes_ Tryd.func30 (by kernel_rfl) rfl #[.int .u8 (rd (rd_L1 l0 x16_1) x29_3), .int .u8 (rd (rd_L1 l1 x29_3) x24_2)] (by rfl) rfl rfl (by (try simp only [List.map_toArray, List.map_cons, List.map_nil]); first | done | rfl | (simp only [List.length_drop, List.length_take]; rfl)) ?_
                                          with_reducible refine (spec_Mul.calls k3 (rd (rd_L1 l0 x16_1) x29_3) (rd (rd_L1 l1 x29_3) x24_2) t158 _ A21.out).mono ?_
                                          rintro e w' ⟨rfl, ⟨nd, rfl⟩⟩
                                          refine ⟨_, rfl, ?_⟩
                                          have p22 : 0 ≤ (x24_2 : Int) := of_decide_eq_true (by first | (with_reducible assumption) | assumption)
                                          have q22 : (x24_2 : Int) < (((rd_L1 x5_3 x16_1).length : Int) : Int) := of_decide_eq_true (by first | (with_reducible assumption) | assumption)
                                          obtain ⟨go22, co22, eo22, gb22, gl22, cl22, HG22⟩ := Kd.R_form HL152_0.out (by omega)
                                          (first | cases eo22 | (injection eo22 with ea_ en_ ec_; (first | subst ea_ | (injection ea_ with ea_; subst ea_)); subst ec_; clear en_))
                                          have GB22 := Aside0.mk gb22
                                          have GG22 := Aside0.mk HG22
                                          clear gb22 gl22 HG22
                                          (first | simp only [add_plain] at hx153_0 | skip)
                                          obtain ⟨hx22_0, hf22_0⟩ := Kd.R_celln 0 HL152_0.out (x24_2 : Int) p22 q22
                                          replace p22 := eq_true p22
                                          replace q22 := eq_true q22
                                          have hq24 : (x16_1 : Int) < (x5_3.length : Int) := (by have h_ : (x16_1 : Int) < ((x5_3.length : Int) : Int) := of_decide_eq_true (by first | (with_reducible assumption) | assumption); first | exact h_ | (have e_ := (Kd.S_reads' HO_5.out).1; omega) | simpa only [List.length_set, List.length_set] using h_)
                                          obtain ⟨oki24, ce24, hcl24, hM24, hcc24, hok24, hbk24⟩ := Kd.S_borrow HO_5.out [] (x16_1 : Int) (of_decide_eq_true (by first | (with_reducible assumption) | assumption)) hq24
                                          obtain ⟨ve24_0, rfl, ge24_0⟩ := hM24
                                          have hv24 := hcc24 0 _ rfl
                                          rw [Nat.add_zero, show ((Kd.slice 5 (Kd.int .u8))).sz = 1 from rfl, Nat.mul_one] at hv24
                                          replace hv24 := Option.some.inj (hv24.symm.trans HX152_0.out)
                                          subst hv24
                                          clear hcc24 hcl24
                                          replace ge24_0 := (show Kd.R (Kd.int .u8) 5 _ _ _ _ (rd_L1 x5_3 x16_1) from ge24_0)
                                          have HP24 := Kd.R_putg ge24_0 (x24_2 : Int) (Go.bits .xor .u8 (rd (rd_L1 x5_3 x16_1) x24_2) t158)
                                          rw [← Ny159.out] at HP24
                                          have HS24 := hbk24 HP24.2 (fun k_ e_ => by injection e_ with e_; subst e_; exact ge24_0.1 _ rfl) (x' := y159) (Kd.M_row HP24.1)
                                          rw [← Ny161.out] at HS24
                                          have HQ24 := Aside0.mk HS24
                                          clear HP24 HS24 hbk24 hok24
                                          refine hK.out _ _ ⟨hHeld.1, hHeld.2.1, ((HB.out.cell (World.block_lt_of_cell? w _ hw154_0)).trans hw154_0), ((HB.out.cell (World.block_lt_of_cell? w _ hw155_0)).trans hw155_0), ((HB.out.cell (World.block_lt_of_cell? w _ hw156_0)).trans hw156_0), ((HB.out.cell (World.block_lt_of_cell? w _ hw157_0)).trans hw157_0)⟩ (fun hHeld => ?_)
                                          clear hK K
                                          refine norm_ (a' := ?_) ?_ ?_
                                          rotate_left
                                          · show Act.put _ (some 53) _ = _
                                            simp only [Act.put, List.setIfInBounds_toArray, List.set_cons_zero, List.set_cons_succ, i64_w, i32_w]
                                            rfl
                                          refine pure_ (i := 22) (N := some 54) (v := ?_) (a' := ?_) #[true, true, true, true, true, true, true, true, true, true, true, true, true, true, true, true, true, true, true, true, true, true, true, false, false] rfl rfl (any_of HT_.out (by kernel_rfl)) (fun _ _ _ h => h) (Or.inl ⟨by rfl, ?_⟩) ?_ ?_
                                          rotate_left
                                          · intro w'
                                            go_simp
                                            with_reducible rfl
                                          rotate_left
                                          · simp only [Act.put, List.setIfInBounds_toArray, List.set_cons_zero, List.set_cons_succ, i64_w, i32_w]
                                            rfl
                                          refine pure_ (i := 23) (N := some 55) (v := ?_) (a' := ?_) #[true, true, true, true, true, true, true, true, true, true, true, true, true, true, true, true, true, true, true, true, true, true, true, true, false] rfl rfl (any_of HT_.out (by kernel_rfl)) (fun _ _ _ h => h) (Or.inl ⟨by rfl, ?_⟩) ?_ ?_
                                          rotate_left
                                          · intro w'
                                            go_simp
                                            with_reducible rfl
                                          rotate_left
                                          · simp only [Act.put, List.setIfInBounds_toArray, List.set_cons_zero, List.set_cons_succ, i64_w, i32_w]
                                            rfl
                                          refine last_ (i := 24) (N := none) #[true, true, true, true, true, true, true, true, true, true, true, true, true, true, true, true, true, true, true, true, true, true, true, true, true] rfl rfl (one_of HT_.out (by kernel_rfl)) (by decide) (fun K hK => ?_)
                                          refine skip_ (w1 := ?_) (by rfl) rfl ?_ ?_
                                          rotate_left
                                          · go_simp
                                            rfl
                                          refine hK.out _ _ ?_
                                          clear hK K
                                          refine done_ (done_of HT_.out (by kernel_rfl)) ?_
                                          try go_wp2
                                          (try simp only [← hl5_3])
                                          go_roundg k3
                                          case measure => have := HK1.out; have := HK2.out; have := HK3.out; omega
                                          case rel => exact ⟨(y161), (wrap64 (x29_3 + 1)), (by first | rfl | (simp; done) | (simp [*]; done)), H', ⟨by have := HK1.out; have := HK2.out; have := HK3.out; omega⟩, ⟨by (try simp only [hl5_2]); (try simp only [hl5_3]); (with_reducible repeat (first | apply Kd.S_alloc | apply Kd.S_drewN | apply Kd.S_drew)); exact HQ24.out⟩, ⟨by repeat (first | (with_reducible first | exact HB.out | apply below_alloc | apply pw_below_drewN | apply below_drew1 | refine below_set ?_ GB22.out) | exact HB.out)⟩⟩
                                        · rw [if_neg c20] at H
                                          exact absurd H (by simp)
                                      · rw [if_neg c19] at H
                                        exact absurd H (by simp)
                                    · rw [if_neg c18] at H
                                      exact absurd H (by simp)
                                  · rw [if_neg c17] at H
                                    exact absurd H (by simp)
                                · rw [if_neg c16] at H
                                  exact absurd H (by simp)
                              · rw [if_neg c15] at H
                                exact absurd H (by simp)
                            · rw [if_neg c14] at H
                              exact absurd H (by simp)
                          · rw [if_neg c13] at H
                            exact absurd H (by simp)
                        · rw [if_neg c12] at H
                          exact absurd H (by simp)
                      · rw [if_neg c11] at H
                        have c11b0 : decide (x29_3 < (l1.length : Int)) = false := decide_eq_false c11
                        clear c11
                        have H' := Aside0.mk H
                        clear H
                        go_wp2
                        (try simp only [← hl5_2, ← hl5_3])
                        go_roundg k3
                        case measure => have := HK1.out; have := HK2.out; have := HK3.out; omega
                        case rel => exact ⟨(x5_3), (wrap64 (x24_2 + 1)), (by first | rfl | (simp; done) | (simp [*]; done)), H', ⟨by have := HK1.out; have := HK2.out; have := HK3.out; omega⟩, ⟨by (try simp only [hl5_2]); (try simp only [hl5_3]); (with_reducible repeat (first | apply Kd.S_alloc | apply Kd.S_drewN | apply Kd.S_drew)); exact HO_5.out⟩, ⟨by repeat (first | (with_reducible first | exact HB.out | apply below_alloc | apply pw_below_drewN | apply below_drew1) | exact HB.out)⟩⟩
                · rw [if_neg c10] at H
                  have c10b0 : decide (x24_2 < ((rd_L1 x5_1 x16_1).length : Int)) = false := decide_eq_false c10
                  clear c10
                  have H' := Aside0.mk H
                  clear H
                  go_wp2
                  (try simp only [← hl5_2])
                  go_roundg k2
                  case measure => have := HK1.out; have := HK2.out; omega
                  case rel => exact ⟨(x5_2), (wrap64 (x16_1 + 1)), (by first | rfl | (simp; done) | (simp [*]; done)), H', ⟨by have := HK1.out; have := HK2.out; omega⟩, ⟨by (try simp only [hl5_2]); (with_reducible repeat (first | apply Kd.S_alloc | apply Kd.S_drewN | apply Kd.S_drew)); exact HO_5.out⟩, ⟨by repeat (first | (with_reducible first | exact HB.out | apply below_alloc | apply pw_below_drewN | apply below_drew1) | exact HB.out)⟩⟩
          · rw [if_neg c8] at H
            exact absurd H (by simp)
        · rw [if_neg c7] at H
          exact absurd H (by simp)
      · rw [if_neg c6] at H
        have c6b0 : decide (x16_1 < (l0.length : Int)) = false := decide_eq_false c6
        clear c6
        obtain rfl := Option.some.inj H
        go_wp2
        go_ret
        exact ⟨_, by first | rfl | (simp [errW_none, errW_some] <;> rfl) | (simp [*, errW_none, errW_some] <;> rfl), by (with_reducible repeat (first | apply Kd.S_alloc | apply Kd.S_drewN | apply Kd.S_drew)); exact HO_5.out, by repeat (first | (with_reducible first | exact HB.out | apply below_alloc | apply pw_below_drewN | apply below_drew1) | exact HB.out)⟩

/-! ### laws_equalBytes: function 18 -/
def laws_equalBytes.l0 : Nat → List Int → List Int → Int → Int → Option (Bool)
  | 0, _, _, _, _ => none
  | k + 1, x0, x1, x12, x13 => if x13 < x12 then (if 0 ≤ x13 then (if x13 < (x0.length : Int) then (if x13 < (x1.length : Int) then (if (rd x0 x13) = (rd x1 x13) then (laws_equalBytes.l0 k x0 x1 x12 (wrap64 (x13 + 1))) else (some false)) else (none)) else (none)) else (none)) else (some true)
def laws_equalBytes.f (k : Nat) (l0 : List Int) (l1 : List Int) : Option (Bool) := if (l0.length : Int) = (l1.length : Int) then (laws_equalBytes.l0 k l0 l1 (l0.length : Int) 0) else (some false)
theorem laws_equalBytes.mono_l : ∀ k, (∀ y0 y1 y2 y3, LeO (laws_equalBytes.l0 k y0 y1 y2 y3) (laws_equalBytes.l0 (k + 1) y0 y1 y2 y3))
  | 0 => fun _ _ _ _ r h => by simp [laws_equalBytes.l0] at h
  | k + 1 => by
    have ih0 := laws_equalBytes.mono_l k
    · intro y0 y1 y2 y3
      unfold laws_equalBytes.l0
      repeat' first
      | (with_reducible exact ih0 _ _ _ _)
      | (with_reducible exact LeO.refl _)
      | (with_reducible exact LeO.none _)
      | (with_reducible refine LeO.ite ?_ ?_)
      | (with_reducible refine LeO.bind ?_ (fun _ => ?_))
      | exact ih0 _ _ _ _
      | exact LeO.none _
      | refine LeO.ite ?_ ?_
      | refine LeO.bind ?_ (fun _ => ?_)
theorem laws_equalBytes.mono : ∀ a0 a1 k, LeO (laws_equalBytes.f k a0 a1) (laws_equalBytes.f (k + 1) a0 a1) := by
  intro a0 a1 k
  have ih0 := laws_equalBytes.mono_l k
  unfold laws_equalBytes.f
  repeat' first
      | (with_reducible exact ih0 _ _ _ _)
      | (with_reducible exact LeO.refl _)
      | (with_reducible exact LeO.none _)
      | (with_reducible refine LeO.ite ?_ ?_)
      | (with_reducible refine LeO.bind ?_ (fun _ => ?_))
      | exact ih0 _ _ _ _
      | exact LeO.none _
      | refine LeO.ite ?_ ?_
      | refine LeO.bind ?_ (fun _ => ?_)
set_option maxHeartbeats 8000000 in
set_option maxRecDepth 100000 in
theorem laws_equalBytes.calls (k : Nat) (A0 : Option Addr) (c0 : Nat) (l0 : List Int) (A1 : Option Addr) (c1 : Nat) (l1 : List Int) (r : Bool) (w : World) (hr0 : Kd.C (Kd.int .u8) w A0 l0.length l0) (hc0 : l0.length ≤ c0) (hr1 : Kd.C (Kd.int .u8) w A1 l1.length l1) (hc1 : l1.length ≤ c1) (h : laws_equalBytes.f k l0 l1 = some r) :
    Calls Tryd.prog 18 #[.slice A0 l0.length c0, .slice A1 l1.length c1] w fun e w' => e = .returned (.bool r) ∧ Drawn0 w w' := by
  have HR0 := Aside0.mk hr0
  have HC0 := Aside0.mk hc0
  clear hr0 hc0
  have HR1 := Aside0.mk hr1
  have HC1 := Aside0.mk hc1
  clear hr1 hc1
  have H : (if (l0.length : Int) = (l1.length : Int) then (laws_equalBytes.l0 k l0 l1 (l0.length : Int) 0) else (some false)) = some r := h
  clear h
  by_cases c3 : (l0.length : Int) = (l1.length : Int)
  · rw [if_pos c3] at H
    have c3b0 : ((l0.length : Int) == (l1.length : Int)) = true := beq_iff_eq.mpr c3
    have c3b1 : ((l0.length : Int) != (l1.length : Int)) = false := bne_eq_false_iff_eq.mpr c3
    have c3b2 : (l0.length == l1.length) = true := by first | simpa using c3 | (simp at c3 ⊢; omega)
    clear c3
    have H' := Aside0.mk H
    clear H
    go_enter Tryd.func18, Tryd.ntmps18
    go_wp2
    repeat (go_quiet (fail); try go_wp2)
    try simp only [Act.put, List.setIfInBounds_toArray, List.set_cons_zero, List.set_cons_succ]
    go_loopg [13] k (fun kq v13 w' => ∃ (x13_1 : Int), v13 = .int .i64 x13_1 ∧ Aside0 (laws_equalBytes.l0 kq l0 l1 (l0.length : Int) x13_1 = some r) ∧ Aside0 (kq ≤ k) ∧ Drawn0 w w')
    case atStart => exact ⟨(0), (by first | rfl | (simp; done) | (simp [*]; done)), H', ⟨Nat.le_refl _⟩, by repeat (first | exact Drawn0.refl _ | apply Drawn0.step)⟩
    case round =>
      clear H'
      try clear c1
      try clear p2
      try clear c3
      try clear c3b0
      try clear c3b1
      try clear c3b2
      obtain ⟨x13_1, rfl, HA, HK1, ⟨m1, rfl⟩⟩ := hrel
      cases gk with
      | zero => exact absurd HA.out (by simp [laws_equalBytes.l0])
      | succ k1 =>
        have H := HA.out
        clear HA
        simp only [laws_equalBytes.l0] at H
        by_cases c4 : x13_1 < (l0.length : Int)
        · rw [if_pos c4] at H
          have c4b0 : decide (x13_1 < (l0.length : Int)) = true := decide_eq_true c4
          clear c4
          by_cases c5 : 0 ≤ x13_1
          · rw [if_pos c5] at H
            have c5b0 : decide (0 ≤ x13_1) = true := decide_eq_true c5
            clear c5
            by_cases c6 : x13_1 < (l0.length : Int)
            · rw [if_pos c6] at H
              have c6b0 : decide (x13_1 < (l0.length : Int)) = true := decide_eq_true c6
              clear c6
              by_cases c7 : x13_1 < (l1.length : Int)
              · rw [if_pos c7] at H
                have c7b0 : decide (x13_1 < (l1.length : Int)) = true := decide_eq_true c7
                clear c7
                by_cases c8 : (rd l0 x13_1) = (rd l1 x13_1)
                · rw [if_pos c8] at H
                  have c8b0 : ((rd l0 x13_1) == (rd l1 x13_1)) = true := beq_iff_eq.mpr c8
                  have c8b1 : ((rd l0 x13_1) != (rd l1 x13_1)) = false := bne_eq_false_iff_eq.mpr c8
                  clear c8
                  have H' := Aside0.mk H
                  clear H
                  have p162 : 0 ≤ (x13_1 : Int) := of_decide_eq_true (by first | (with_reducible assumption) | assumption)
                  have q162 : x13_1 < (l0.length : Int) := of_decide_eq_true (by first | (with_reducible assumption) | assumption)
                  obtain ⟨ad162, e162, hx162_0⟩ := Kd.at_int HR0.out x13_1 p162 q162
                  cases e162
                  replace p162 := eq_true p162
                  replace q162 := eq_true q162
                  have p163 : 0 ≤ (x13_1 : Int) := of_decide_eq_true (by first | (with_reducible assumption) | assumption)
                  have q163 : x13_1 < (l1.length : Int) := of_decide_eq_true (by first | (with_reducible assumption) | assumption)
                  obtain ⟨ad163, e163, hx163_0⟩ := Kd.at_int HR1.out x13_1 p163 q163
                  cases e163
                  replace p163 := eq_true p163
                  replace q163 := eq_true q163
                  go_wp2
                  repeat (go_quiet (fail); try go_wp2)
                  go_roundg k1
                  case measure => have := HK1.out; omega
                  case rel => exact ⟨(wrap64 (x13_1 + 1)), (by first | rfl | (simp; done) | (simp [*]; done)), H', ⟨by have := HK1.out; omega⟩, by repeat (first | exact Drawn0.refl _ | apply Drawn0.step)⟩
                · rw [if_neg c8] at H
                  have c8b0 : ((rd l0 x13_1) == (rd l1 x13_1)) = false := beq_eq_false_iff_ne.mpr c8
                  have c8b1 : ((rd l0 x13_1) != (rd l1 x13_1)) = true := bne_iff_ne.mpr c8
                  obtain rfl := Option.some.inj H
                  have p162 : 0 ≤ (x13_1 : Int) := of_decide_eq_true (by first | (with_reducible assumption) | assumption)
                  have q162 : x13_1 < (l0.length : Int) := of_decide_eq_true (by first | (with_reducible assumption) | assumption)
                  obtain ⟨ad162, e162, hx162_0⟩ := Kd.at_int HR0.out x13_1 p162 q162
                  cases e162
                  replace p162 := eq_true p162
                  replace q162 := eq_true q162
                  have p163 : 0 ≤ (x13_1 : Int) := of_decide_eq_true (by first | (with_reducible assumption) | assumption)
                  have q163 : x13_1 < (l1.length : Int) := of_decide_eq_true (by first | (with_reducible assumption) | assumption)
                  obtain ⟨ad163, e163, hx163_0⟩ := Kd.at_int HR1.out x13_1 p163 q163
                  cases e163
                  replace p163 := eq_true p163
                  replace q163 := eq_true q163
                  go_wp2
                  repeat (go_quiet (fail); try go_wp2)
                  go_ret
                  exact ⟨by first | rfl | (simp; done) | (simp [*]; done), by repeat (first | exact Drawn0.refl _ | apply Drawn0.step)⟩
              · rw [if_neg c7] at H
                exact absurd H (by simp)
            · rw [if_neg c6] at H
              exact absurd H (by simp)
          · rw [if_neg c5] at H
            exact absurd H (by simp)
        · rw [if_neg c4] at H
          have c4b0 : decide (x13_1 < (l0.length : Int)) = false := decide_eq_false c4
          clear c4
          obtain rfl := Option.some.inj H
          go_wp2
          repeat (go_quiet (fail); try go_wp2)
          go_ret
          exact ⟨by first | rfl | (simp; done) | (simp [*]; done), by repeat (first | exact Drawn0.refl _ | apply Drawn0.step)⟩
  · rw [if_neg c3] at H
    have c3b0 : ((l0.length : Int) == (l1.length : Int)) = false := beq_eq_false_iff_ne.mpr c3
    have c3b1 : ((l0.length : Int) != (l1.length : Int)) = true := bne_iff_ne.mpr c3
    have c3b2 : (l0.length == l1.length) = false := by first | simpa using c3 | (simp at c3 ⊢; omega)
    obtain rfl := Option.some.inj H
    go_enter Tryd.func18, Tryd.ntmps18
    go_wp2
    repeat (go_quiet (fail); try go_wp2)
    go_ret
    exact ⟨by first | rfl | (simp; done) | (simp [*]; done), by repeat (first | exact Drawn0.refl _ | apply Drawn0.step)⟩

end Go.Proofs.YtladpdeneiaaeaaDoor.PRow
