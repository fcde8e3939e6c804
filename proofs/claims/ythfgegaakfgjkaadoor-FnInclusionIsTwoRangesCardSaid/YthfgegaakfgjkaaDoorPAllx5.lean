-- Written by a program of this session (wip/tools)
import Derived.Test.YthfgegaakfgjkaaDoorPAllx0
import Derived.Test.YthfgegaakfgjkaaDoorPAllx2
import Derived.Test.YthfgegaakfgjkaaDoorPAllx4
namespace Go.Proofs.YthfgegaakfgjkaaDoor.PAll
open Go.RowKit Go.Proofs.YthfgegaakfgjkaaDoorW.PrintWords Go.Proofs.YthfgegaakfgjkaaDoorW.PrintLast Go.Proofs.YthfgegaakfgjkaaDoorW.PrintMore
attribute [local go_sem] max2_int min2_int max_two min_two max_three min_three max_four min_four   -- for this text's walks alone
set_option linter.unusedVariables false
set_option linter.unusedSimpArgs false

/-! ### laws_FnRangeNodesScaled: function 4 -/
def laws_FnRangeNodesScaled.j0 : Nat → Int → Int → Int → Bool → Option (Bool)
  | 0, _, _, _, _ => none
  | k + 1, x0, x1, x2, x16 => if x16 = true then (some true) else ((impl_RangeNodes.f k x0 x1 ([] : List (S36))).bind fun t183 => (if 0 ≤ x2 then ((impl_RangeNodes.f k (shl .u64 x0 x2) (shl .u64 x1 x2) ([] : List (S36))).bind fun t186 => ((laws_raised.f k t183 x2).bind fun t189 => ((spec_SameNodes.f k t186 t189).bind fun t192 => (if t192 = true then ((impl_RangeSize.f k x0 x1).bind fun t193 => (if (t183.length : Int) = t193 then ((impl_RangeSize.f k (shl .u64 x0 x2) (shl .u64 x1 x2)).bind fun t194 => (if t194 = (t183.length : Int) then (some ((decide ((t183.length : Int) > 0)) == (decide (x0 < x1)))) else (none))) else (none))) else (none))))) else (none)))
def laws_FnRangeNodesScaled.f (k : Nat) (a0 : Int) (a1 : Int) (a2 : Int) : Option (Bool) := if a0 > a1 then (laws_FnRangeNodesScaled.j0 k a0 a1 a2 true) else ((laws_scalable.f a1 a2).bind fun t182 => (laws_FnRangeNodesScaled.j0 k a0 a1 a2 (!t182)))
theorem laws_FnRangeNodesScaled.mono_l : ∀ k, (∀ y0 y1 y2 y3, LeO (laws_FnRangeNodesScaled.j0 k y0 y1 y2 y3) (laws_FnRangeNodesScaled.j0 (k + 1) y0 y1 y2 y3))
  | 0 => fun _ _ _ _ r h => by simp [laws_FnRangeNodesScaled.j0] at h
  | k + 1 => by
    have ih0 := laws_FnRangeNodesScaled.mono_l k
    · intro y0 y1 y2 y3
      unfold laws_FnRangeNodesScaled.j0
      repeat' first
      | (with_reducible exact ih0 _ _ _ _)
      | (with_reducible exact impl_RangeNodes.mono _ _ _ _)
      | (with_reducible exact impl_RangeSize.mono _ _ _)
      | (with_reducible exact laws_raised.mono _ _ _)
      | (with_reducible exact spec_SameNodes.mono _ _ _)
      | (with_reducible exact LeO.refl _)
      | (with_reducible exact LeO.none _)
      | (with_reducible refine LeO.ite ?_ ?_)
      | (with_reducible refine LeO.bind ?_ (fun _ => ?_))
      | exact ih0 _ _ _ _
      | exact impl_RangeNodes.mono _ _ _ _
      | exact impl_RangeSize.mono _ _ _
      | exact laws_raised.mono _ _ _
      | exact spec_SameNodes.mono _ _ _
      | exact LeO.none _
      | refine LeO.ite ?_ ?_
      | refine LeO.bind ?_ (fun _ => ?_)
theorem laws_FnRangeNodesScaled.mono : ∀ a0 a1 a2 k, LeO (laws_FnRangeNodesScaled.f k a0 a1 a2) (laws_FnRangeNodesScaled.f (k + 1) a0 a1 a2) := by
  intro a0 a1 a2 k
  have ih0 := laws_FnRangeNodesScaled.mono_l k
  unfold laws_FnRangeNodesScaled.f
  repeat' first
      | (with_reducible exact ih0 _ _ _ _)
      | (with_reducible exact impl_RangeNodes.mono _ _ _ _)
      | (with_reducible exact impl_RangeSize.mono _ _ _)
      | (with_reducible exact laws_raised.mono _ _ _)
      | (with_reducible exact spec_SameNodes.mono _ _ _)
      | (with_reducible exact LeO.refl _)
      | (with_reducible exact LeO.none _)
      | (with_reducible refine LeO.ite ?_ ?_)
      | (with_reducible refine LeO.bind ?_ (fun _ => ?_))
      | exact ih0 _ _ _ _
      | exact impl_RangeNodes.mono _ _ _ _
      | exact impl_RangeSize.mono _ _ _
      | exact laws_raised.mono _ _ _
      | exact spec_SameNodes.mono _ _ _
      | exact LeO.none _
      | refine LeO.ite ?_ ?_
      | refine LeO.bind ?_ (fun _ => ?_)
def laws_FnRangeNodesScaled.T4 : Bool × List (List Nat × List Nat) := (true, [([], []), ([], []), ([0, 1], [0, 1]), ([], []), ([], []), ([3, 4], [3, 4]), ([2, 5], [2, 5]), ([], []), ([], []), ([7, 8, 6], [7, 8]), ([6, 9, 9], [6, 9]), ([10, 10], [10]), ([11], [11]), ([12, 11], [11, 12]), ([11], [11]), ([11], [11]), ([14, 15, 11, 11], [11, 14, 15]), ([13, 16, 11], [11, 13, 16]), ([11, 17], [11, 17]), ([18, 16], [18]), ([19], [19]), ([19], [19]), ([20, 21, 19], [19, 20, 21]), ([19], [19]), ([19], [19]), ([23, 24, 19], [19, 23, 24]), ([22, 25, 19, 19], [19, 22, 25]), ([19], [19]), ([27, 19], [19, 27]), ([26, 28, 19], [19, 26, 28]), ([19, 29], [19, 29]), ([30, 26], [30]), ([31], [31]), ([32, 31], [31, 32]), ([33, 31], [31, 33]), ([31], [31]), ([31], [31]), ([35, 36, 31], [31, 35, 36]), ([34, 37, 31], [31, 34, 37]), ([31, 38], [31, 38]), ([39, 31, 0, 1, 2, 3, 4, 5, 6, 7, 8, 9, 10, 11, 12, 13, 14, 15, 16, 17, 18, 19, 20, 21, 22, 23, 24, 25, 26, 27, 28, 29, 30, 31, 32, 33, 34, 35, 36, 37, 38, 39], [39])])
def laws_FnRangeNodesScaled.B4 : List Nat := [0, 0, 3, 0, 0, 24, 63, 0, 0, 511, 1023, 2047, 4095, 8191, 4095, 4095, 53247, 131071, 262143, 524287, 1048575, 1048575, 4194303, 1048575, 1048575, 26214399, 67108863, 1048575, 135266303, 536870911, 1073741823, 2147483647, 4294967295, 8589934591, 17179869183, 4294967295, 4294967295, 107374182399, 274877906943, 549755813887, 1099511627775]
theorem laws_FnRangeNodesScaled.tab4 : rtab .any (opsOf Tryd.f4 4) = laws_FnRangeNodesScaled.T4 := by kernel_rfl
theorem laws_FnRangeNodesScaled.bits4 : waitsOk laws_FnRangeNodesScaled.T4.2 laws_FnRangeNodesScaled.B4 = true := by kernel_rfl
set_option maxHeartbeats 8000000 in
set_option maxRecDepth 100000 in
theorem laws_FnRangeNodesScaled.calls (k : Nat) (a0 : Int) (a1 : Int) (a2 : Int) (r : Bool) (w : World) (hG : Glob w) (h : laws_FnRangeNodesScaled.f k a0 a1 a2 = some r) :
    Calls Tryd.prog 4 #[.int .u64 a0, .int .u64 a1, .int .i64 a2] w fun e w' => e = .returned (.bool r) ∧ Below w.heap.size w w' := by
  have HB := Aside0.mk (Below.refl w.heap.size w)
  have H : (if a0 > a1 then (laws_FnRangeNodesScaled.j0 k a0 a1 a2 true) else ((laws_scalable.f a1 a2).bind fun t182 => (laws_FnRangeNodesScaled.j0 k a0 a1 a2 (!t182)))) = some r := h
  clear h
  have HC4 := Aside0.mk H
  clear H
  go_enter Tryd.func4, Tryd.ntmps4
  go_upto_region 1 with (fail)
  go_cut [16] (fun v16 wc => ∃ (kq : Nat) (x16_3 : Bool), v16 = .bool x16_3 ∧ Aside0 (laws_FnRangeNodesScaled.j0 kq a0 a1 a2 x16_3 = some r) ∧ Aside0 (kq ≤ k) ∧ Aside0 (Below w.heap.size w wc))
  case first =>
    have H := HC4.out
    clear HC4
    by_cases c5 : a0 > a1
    · rw [if_pos c5] at H
      have c5b0 : decide (a1 < a0) = true := decide_eq_true c5
      clear c5
      (first | rw [c5b0] | (simp only [i64_w, i32_w]; rw [c5b0]) | skip)
      have H' := Aside0.mk H
      clear H
      go_wp2
      go_meet
      case rel => exact ⟨_, (true), (by first | rfl | (simp; done) | (simp [*]; done)), H', ⟨by first | omega | exact Nat.le_refl _⟩, ⟨by repeat (first | (with_reducible first | exact HB.out | apply below_alloc | apply pw_below_drewN | apply below_drew1) | exact HB.out)⟩⟩
    · rw [if_neg c5] at H
      have c5b0 : decide (a1 < a0) = false := decide_eq_false c5
      clear c5
      (first | rw [c5b0] | (simp only [i64_w, i32_w]; rw [c5b0]) | skip)
      replace H := Option.bind_eq_some_iff.mp H
      obtain ⟨t182, A60, H⟩ := H
      replace H : (laws_FnRangeNodesScaled.j0 k a0 a1 a2 (!t182)) = some r := H
      have A6 := Aside0.mk A60
      clear A60
      have H' := Aside0.mk H
      clear H
      go_wp2_with (first | (go_at_call 11; (with_reducible refine (laws_scalable.calls a1 a2 t182 _ A6.out).mono ?_); rintro e w' ⟨rfl, ⟨nd, rfl⟩⟩))
      go_meet
      case rel => exact ⟨_, (!t182), (by first | rfl | (simp; done) | (simp [*]; done)), H', ⟨by first | omega | exact Nat.le_refl _⟩, ⟨by repeat (first | (with_reducible first | exact HB.out | apply below_alloc | apply pw_below_drewN | apply below_drew1) | exact HB.out)⟩⟩
  case rest =>
    clear HC4
    try clear p2
    try clear c4
    try clear c5
    try clear c5b0
    obtain ⟨kq, x16_3, rfl, HA, HJ3, HB⟩ := hcut
    cases kq with
    | zero => exact absurd HA.out (by simp [laws_FnRangeNodesScaled.j0])
    | succ kj3 =>
      have H := HA.out
      clear HA
      simp only [laws_FnRangeNodesScaled.j0] at H
      by_cases c7 : x16_3 = true
      · subst c7
        have H1 : (some true) = some r := by rw [if_pos rfl] at H; exact H
        clear H
        have H := H1
        clear H1
        obtain rfl := Option.some.inj H
        go_wp2
        go_ret
        exact ⟨by first | rfl | (simp [errW_none, errW_some] <;> rfl) | (simp [*, errW_none, errW_some] <;> rfl), by repeat (first | (with_reducible first | exact HB.out | apply below_alloc | apply pw_below_drewN | apply below_drew1) | exact HB.out)⟩
      · replace c7 := Bool.eq_false_iff.mpr c7
        subst c7
        have H1 : ((impl_RangeNodes.f kj3 a0 a1 ([] : List (S36))).bind fun t183 => (if 0 ≤ a2 then ((impl_RangeNodes.f kj3 (shl .u64 a0 a2) (shl .u64 a1 a2) ([] : List (S36))).bind fun t186 => ((laws_raised.f kj3 t183 a2).bind fun t189 => ((spec_SameNodes.f kj3 t186 t189).bind fun t192 => (if t192 = true then ((impl_RangeSize.f kj3 a0 a1).bind fun t193 => (if (t183.length : Int) = t193 then ((impl_RangeSize.f kj3 (shl .u64 a0 a2) (shl .u64 a1 a2)).bind fun t194 => (if t194 = (t183.length : Int) then (some ((decide ((t183.length : Int) > 0)) == (decide (a0 < a1)))) else (none))) else (none))) else (none))))) else (none))) = some r := by rw [if_neg (show ¬ (false = true) by decide)] at H; exact H
        clear H
        have H := H1
        clear H1
        replace H := Option.bind_eq_some_iff.mp H
        obtain ⟨t183, A80, H⟩ := H
        replace H : (if 0 ≤ a2 then ((impl_RangeNodes.f kj3 (shl .u64 a0 a2) (shl .u64 a1 a2) ([] : List (S36))).bind fun t186 => ((laws_raised.f kj3 t183 a2).bind fun t189 => ((spec_SameNodes.f kj3 t186 t189).bind fun t192 => (if t192 = true then ((impl_RangeSize.f kj3 a0 a1).bind fun t193 => (if (t183.length : Int) = t193 then ((impl_RangeSize.f kj3 (shl .u64 a0 a2) (shl .u64 a1 a2)).bind fun t194 => (if t194 = (t183.length : Int) then (some ((decide ((t183.length : Int) > 0)) == (decide (a0 < a1)))) else (none))) else (none))) else (none))))) else (none)) = some r := H
        have A8 := Aside0.mk A80
        clear A80
        by_cases c9 : 0 ≤ a2
        · rw [if_pos c9] at H
          have c9b0 := eq_true c9
          have c9b1 : decide (0 ≤ a2) = true := decide_eq_true c9
          clear c9
          obtain ⟨ji10, hji10⟩ : ∃ j_ : Int, (shl .u64 a0 a2) = j_ := ⟨_, rfl⟩
          replace H : ((impl_RangeNodes.f kj3 (ji10) (shl .u64 a1 a2) ([] : List (S36))).bind fun t186 => ((laws_raised.f kj3 t183 a2).bind fun t189 => ((spec_SameNodes.f kj3 t186 t189).bind fun t192 => (if t192 = true then ((impl_RangeSize.f kj3 a0 a1).bind fun t193 => (if (t183.length : Int) = t193 then ((impl_RangeSize.f kj3 (ji10) (shl .u64 a1 a2)).bind fun t194 => (if t194 = (t183.length : Int) then (some ((decide ((t183.length : Int) > 0)) == (decide (a0 < a1)))) else (none))) else (none))) else (none))))) = some r := by first | (rw [hji10] at H; exact H) | (simp only [hji10] at H ⊢; exact H)
          (try rw [hji10] at A8)
          have hji10_ : (IntKind.u64.wrap (a0 * 2 ^ min a2.toNat 64)) = ji10 := hji10
          have hji10z : a2 ≤ 64 → (IntKind.u64.wrap (a0 * 2 ^ a2.toNat)) = ji10 := shl_small hji10
          have c11b0 := eq_true (of_decide_eq_true (by first | (with_reducible assumption) | assumption) : 0 ≤ a2)
          obtain ⟨ji12, hji12⟩ : ∃ j_ : Int, (shl .u64 a1 a2) = j_ := ⟨_, rfl⟩
          replace H : ((impl_RangeNodes.f kj3 (ji10) (ji12) ([] : List (S36))).bind fun t186 => ((laws_raised.f kj3 t183 a2).bind fun t189 => ((spec_SameNodes.f kj3 t186 t189).bind fun t192 => (if t192 = true then ((impl_RangeSize.f kj3 a0 a1).bind fun t193 => (if (t183.length : Int) = t193 then ((impl_RangeSize.f kj3 (ji10) (ji12)).bind fun t194 => (if t194 = (t183.length : Int) then (some ((decide ((t183.length : Int) > 0)) == (decide (a0 < a1)))) else (none))) else (none))) else (none))))) = some r := by first | (rw [hji12] at H; exact H) | (simp only [hji12] at H ⊢; exact H)
          (try rw [hji12] at A8)
          have hji12_ : (IntKind.u64.wrap (a1 * 2 ^ min a2.toNat 64)) = ji12 := hji12
          have hji12z : a2 ≤ 64 → (IntKind.u64.wrap (a1 * 2 ^ a2.toNat)) = ji12 := shl_small hji12
          replace H := Option.bind_eq_some_iff.mp H
          obtain ⟨t186, A130, H⟩ := H
          replace H : ((laws_raised.f kj3 t183 a2).bind fun t189 => ((spec_SameNodes.f kj3 t186 t189).bind fun t192 => (if t192 = true then ((impl_RangeSize.f kj3 a0 a1).bind fun t193 => (if (t183.length : Int) = t193 then ((impl_RangeSize.f kj3 (ji10) (ji12)).bind fun t194 => (if t194 = (t183.length : Int) then (some ((decide ((t183.length : Int) > 0)) == (decide (a0 < a1)))) else (none))) else (none))) else (none)))) = some r := H
          have A13 := Aside0.mk A130
          clear A130
          replace H := Option.bind_eq_some_iff.mp H
          obtain ⟨t189, A140, H⟩ := H
          replace H : ((spec_SameNodes.f kj3 t186 t189).bind fun t192 => (if t192 = true then ((impl_RangeSize.f kj3 a0 a1).bind fun t193 => (if (t183.length : Int) = t193 then ((impl_RangeSize.f kj3 (ji10) (ji12)).bind fun t194 => (if t194 = (t183.length : Int) then (some ((decide ((t183.length : Int) > 0)) == (decide (a0 < a1)))) else (none))) else (none))) else (none))) = some r := H
          have A14 := Aside0.mk A140
          clear A140
          replace H := Option.bind_eq_some_iff.mp H
          obtain ⟨t192, A150, H⟩ := H
          replace H : (if t192 = true then ((impl_RangeSize.f kj3 a0 a1).bind fun t193 => (if (t183.length : Int) = t193 then ((impl_RangeSize.f kj3 (ji10) (ji12)).bind fun t194 => (if t194 = (t183.length : Int) then (some ((decide ((t183.length : Int) > 0)) == (decide (a0 < a1)))) else (none))) else (none))) else (none)) = some r := H
          have A15 := Aside0.mk A150
          clear A150
          by_cases c16 : t192 = true
          · subst c16
            have H1 : ((impl_RangeSize.f kj3 a0 a1).bind fun t193 => (if (t183.length : Int) = t193 then ((impl_RangeSize.f kj3 (ji10) (ji12)).bind fun t194 => (if t194 = (t183.length : Int) then (some ((decide ((t183.length : Int) > 0)) == (decide (a0 < a1)))) else (none))) else (none))) = some r := by rw [if_pos rfl] at H; exact H
            clear H
            have H := H1
            clear H1
            replace H := Option.bind_eq_some_iff.mp H
            obtain ⟨t193, A170, H⟩ := H
            replace H : (if (t183.length : Int) = t193 then ((impl_RangeSize.f kj3 (ji10) (ji12)).bind fun t194 => (if t194 = (t183.length : Int) then (some ((decide ((t183.length : Int) > 0)) == (decide (a0 < a1)))) else (none))) else (none)) = some r := H
            have A17 := Aside0.mk A170
            clear A170
            by_cases c18 : (t183.length : Int) = t193
            · rw [if_pos c18] at H
              have c18b0 : ((t183.length : Int) == t193) = true := beq_iff_eq.mpr c18
              have c18b1 : ((t183.length : Int) != t193) = false := bne_eq_false_iff_eq.mpr c18
              clear c18
              have c19b0 := eq_true (of_decide_eq_true (by first | (with_reducible assumption) | assumption) : 0 ≤ a2)
              have c20b0 := eq_true (of_decide_eq_true (by first | (with_reducible assumption) | assumption) : 0 ≤ a2)
              replace H := Option.bind_eq_some_iff.mp H
              obtain ⟨t194, A210, H⟩ := H
              replace H : (if t194 = (t183.length : Int) then (some ((decide ((t183.length : Int) > 0)) == (decide (a0 < a1)))) else (none)) = some r := H
              have A21 := Aside0.mk A210
              clear A210
              by_cases c22 : t194 = (t183.length : Int)
              · rw [if_pos c22] at H
                have c22b0 : (t194 == (t183.length : Int)) = true := beq_iff_eq.mpr c22
                have c22b1 : (t194 != (t183.length : Int)) = false := bne_eq_false_iff_eq.mpr c22
                clear c22
                obtain rfl := Option.some.inj H
                try go_wp2_with (first | ((with_reducible refine gate_callee (f := 10) rfl ?_); refine goesL_ (some 19) rfl rfl Tryd.func10 (by kernel_rfl) rfl #[.int .u64 a0, .int .u64 a1, .slice none 0 0] rfl (by (try simp only [List.map_toArray, List.map_cons, List.map_nil]); first | done | rfl | (simp only [List.length_drop, List.length_take]; rfl)) ?_; (refine (impl_RangeNodes.calls kj3 a0 a1 _ _ ([] : List (S36)) t183 _ ?side3 ?side1 ?side2 A8.out).mono ?_); (case side1 => exact Kd.C_nil _ _); (case side2 => exact Nat.le_refl _); (case side3 => exact Glob.below hG (by repeat (first | (with_reducible first | exact HB.out | apply below_alloc | apply pw_below_drewN | apply below_drew1) | exact HB.out))); rintro e w23 ⟨v184, rfl, ho0, hb⟩; refine ⟨_, rfl, ?_⟩; have n0_ := Aside0.mk (Kd.R_lower ho0 (below_size (by repeat (first | (with_reducible first | exact HB.out | apply below_alloc | apply pw_below_drewN | apply below_drew1) | exact HB.out)))); have n1_ := Aside0.mk (below_step (by repeat (first | (with_reducible first | exact HB.out | apply below_alloc | apply pw_below_drewN | apply below_drew1) | exact HB.out)) hb); clear HB; have HO185 := n0_; have HB := n1_; clear n0_ n1_; (try clear hb); (try clear hb2); (try clear hk); (try clear hi); (try clear ho0)))
                (try (rw [drewN_self w23]; generalize hq_ : World.drewN w23 _ = w23; have n0_ : Aside0 (Kd.R k36 36 w23 w.heap.size (fun _ => True) v184 t183) := ⟨by rw [← hq_]; exact (by (with_reducible repeat (first | apply Kd.R_alloc | apply Kd.R_drewN | apply Kd.R_drew)); exact HO185.out)⟩; have n1_ : Aside0 (Below w.heap.size w w23) := ⟨by rw [← hq_]; exact (by repeat (first | (with_reducible first | exact HB.out | apply below_alloc | apply pw_below_drewN | apply below_drew1) | exact HB.out))⟩; clear HO185 HB hq_; have HO185 := n0_; have HB := n1_; clear n0_ n1_))
                have n0_ := Aside0.mk (Kd.R_drew HO185.out)
                have n1_ := Aside0.mk (below_drew1 HB.out)
                clear HO185
                clear HB
                have HO185 := n0_
                have HB := n1_
                clear n0_ n1_
                refine start_ (n := 41) (S := fun w' => True) (ds := []) #[false, false, false, false, false, false, false, false, false, false, false, false, false, false, false, false, false, false, false, false, false, false, false, false, false, false, false, false, false, false, false, false, false, false, false, false, false, false, false, false, false] (by kernel_rfl) rfl rfl trivial (fun hHeld => ?_); refine with_tabW laws_FnRangeNodesScaled.tab4 laws_FnRangeNodesScaled.bits4 (fun HT_ HW_ => ?_)
                generalize w23.drew = w24 at HO185 HB hHeld ⊢
                refine pure_ (i := 0) (N := some 20) (v := ?_) (a' := ?_) #[true, false, false, false, false, false, false, false, false, false, false, false, false, false, false, false, false, false, false, false, false, false, false, false, false, false, false, false, false, false, false, false, false, false, false, false, false, false, false, false, false] rfl rfl (any_of HT_.out (by kernel_rfl)) (fun _ _ _ h => h) (Or.inl ⟨by rfl, ?_⟩) ?_ ?_
                rotate_left
                · intro w'
                  go_simp
                  with_reducible rfl
                rotate_left
                · simp only [Act.put, List.setIfInBounds_toArray, List.set_cons_zero, List.set_cons_succ, i64_w, i32_w]
                  rfl
                refine pure_ (i := 1) (N := some 21) (v := ?_) (a' := ?_) #[true, true, false, false, false, false, false, false, false, false, false, false, false, false, false, false, false, false, false, false, false, false, false, false, false, false, false, false, false, false, false, false, false, false, false, false, false, false, false, false, false] rfl rfl (any_of HT_.out (by kernel_rfl)) (fun _ _ _ h => h) (Or.inl ⟨by rfl, ?_⟩) ?_ ?_
                rotate_left
                · intro w'
                  go_simp
                  with_reducible rfl
                rotate_left
                · simp only [Act.put, List.setIfInBounds_toArray, List.set_cons_zero, List.set_cons_succ, i64_w, i32_w]
                  rfl
                refine pure_ (i := 2) (N := some 22) (v := ?_) (a' := ?_) #[true, true, true, false, false, false, false, false, false, false, false, false, false, false, false, false, false, false, false, false, false, false, false, false, false, false, false, false, false, false, false, false, false, false, false, false, false, false, false, false, false] rfl rfl (any_of HT_.out (by kernel_rfl)) (fun _ _ _ h => h) (Or.inl ⟨by rfl, ?_⟩) ?_ ?_
                rotate_left
                · intro w'
                  go_simp
                  with_reducible rfl
                rotate_left
                · simp only [Act.put, List.setIfInBounds_toArray, List.set_cons_zero, List.set_cons_succ, i64_w, i32_w]
                  rfl
                refine pure_ (i := 3) (N := some 23) (v := ?_) (a' := ?_) #[true, true, true, true, false, false, false, false, false, false, false, false, false, false, false, false, false, false, false, false, false, false, false, false, false, false, false, false, false, false, false, false, false, false, false, false, false, false, false, false, false] rfl rfl (any_of HT_.out (by kernel_rfl)) (fun _ _ _ h => h) (Or.inl ⟨by rfl, ?_⟩) ?_ ?_
                rotate_left
                · intro w'
                  go_simp
                  with_reducible rfl
                rotate_left
                · simp only [Act.put, List.setIfInBounds_toArray, List.set_cons_zero, List.set_cons_succ, i64_w, i32_w]
                  rfl
                refine pure_ (i := 4) (N := some 24) (v := ?_) (a' := ?_) #[true, true, true, true, true, false, false, false, false, false, false, false, false, false, false, false, false, false, false, false, false, false, false, false, false, false, false, false, false, false, false, false, false, false, false, false, false, false, false, false, false] rfl rfl (any_of HT_.out (by kernel_rfl)) (fun _ _ _ h => h) (Or.inl ⟨by rfl, ?_⟩) ?_ ?_
                rotate_left
                · intro w'
                  go_simp
                  with_reducible rfl
                rotate_left
                · simp only [Act.put, List.setIfInBounds_toArray, List.set_cons_zero, List.set_cons_succ, i64_w, i32_w]
                  rfl
                refine pure_ (i := 5) (N := some 25) (v := ?_) (a' := ?_) #[true, true, true, true, true, true, false, false, false, false, false, false, false, false, false, false, false, false, false, false, false, false, false, false, false, false, false, false, false, false, false, false, false, false, false, false, false, false, false, false, false] rfl rfl (any_of HT_.out (by kernel_rfl)) (fun _ _ _ h => h) (Or.inl ⟨by rfl, ?_⟩) ?_ ?_
                rotate_left
                · intro w'
                  go_simp
                  with_reducible rfl
                rotate_left
                · simp only [Act.put, List.setIfInBounds_toArray, List.set_cons_zero, List.set_cons_succ, i64_w, i32_w]
                  rfl
                refine pure_ (i := 7) (N := some 27) (v := ?_) (a' := ?_) #[true, true, true, true, true, true, false, true, false, false, false, false, false, false, false, false, false, false, false, false, false, false, false, false, false, false, false, false, false, false, false, false, false, false, false, false, false, false, false, false, false] rfl rfl (any_of HT_.out (by kernel_rfl)) (fun _ _ _ h => h) (Or.inl ⟨by rfl, ?_⟩) ?_ ?_
                rotate_left
                · intro w'
                  go_simp
                  with_reducible rfl
                rotate_left
                · simp only [Act.put, List.setIfInBounds_toArray, List.set_cons_zero, List.set_cons_succ, i64_w, i32_w]
                  rfl
                refine pure_ (i := 8) (N := some 28) (v := ?_) (a' := ?_) #[true, true, true, true, true, true, false, true, true, false, false, false, false, false, false, false, false, false, false, false, false, false, false, false, false, false, false, false, false, false, false, false, false, false, false, false, false, false, false, false, false] rfl rfl (any_of HT_.out (by kernel_rfl)) (fun _ _ _ h => h) (Or.inl ⟨by rfl, ?_⟩) ?_ ?_
                rotate_left
                · intro w'
                  go_simp
                  with_reducible rfl
                rotate_left
                · simp only [Act.put, List.setIfInBounds_toArray, List.set_cons_zero, List.set_cons_succ, i64_w, i32_w]
                  rfl
                refine one_ (i := 6) (N := some 26) #[true, true, true, true, true, true, true, true, true, false, false, false, false, false, false, false, false, false, false, false, false, false, false, false, false, false, false, false, false, false, false, false, false, false, false, false, false, false, false, false, false] rfl rfl (one_of HT_.out (by kernel_rfl)) (by decide) (fun K hK => ?_)
                refine goes_ Tryd.func10 (by kernel_rfl) rfl #[.int .u64 ji10, .int .u64 ji12, .slice none 0 0] (by rfl) rfl rfl (by (try simp only [List.map_toArray, List.map_cons, List.map_nil]); first | done | (simp only [hji10, hji12]; rfl) | rfl | (simp only [List.length_drop, List.length_take]; rfl)) ?_
                refine (impl_RangeNodes.calls kj3 ji10 ji12 _ _ ([] : List (S36)) t186 _ ?side3 ?side1 ?side2 A13.out).mono ?_
                (case side1 => exact Kd.C_nil _ _)
                (case side2 => exact Nat.le_refl _)
                (case side3 => exact Glob.below hG (by repeat (first | (with_reducible first | exact HB.out | apply below_alloc | apply pw_below_drewN | apply below_drew1) | exact HB.out)))
                rintro e w25 ⟨v187, rfl, ho0, hb⟩
                refine ⟨_, rfl, ?_⟩
                have n0_ := Aside0.mk (Kd.R_elder' (by (with_reducible repeat (first | apply Kd.R_alloc | apply Kd.R_drewN | apply Kd.R_drew)); exact HO185.out) (Kd.R_base ho0) hb)
                have n1_ := Aside0.mk (Kd.R_lower (Kd.R_new' ho0 (Kd.R_lt (by (with_reducible repeat (first | apply Kd.R_alloc | apply Kd.R_drewN | apply Kd.R_drew)); exact HO185.out))) (below_size (by repeat (first | (with_reducible first | exact HB.out | apply below_alloc | apply pw_below_drewN | apply below_drew1) | exact HB.out))))
                have n2_ := Aside0.mk (below_step (by repeat (first | (with_reducible first | exact HB.out | apply below_alloc | apply pw_below_drewN | apply below_drew1) | exact HB.out)) hb)
                clear HO185
                clear HB
                have HO185 := n0_
                have HO188 := n1_
                have HB := n2_
                clear n0_ n1_ n2_
                (try clear hb)
                (try clear hb2)
                (try clear hk)
                (try clear hi)
                (try clear ho0)
                obtain ⟨Ao26, co26, eo26⟩ := Kd.R_slice HO185.out
                (first | subst eo26 | (injection eo26 with f1_ f2_ f3_; have f4_ := f1_.symm; have f5_ := f3_.symm; clear f1_ f2_ f3_; subst f4_; subst f5_))
                refine hK.out _ _ trivial (fun hHeld => ?_)
                clear hK K
                refine norm_ (a' := ?_) ?_ ?_
                rotate_left
                · show Act.put _ (some 26) _ = _
                  simp only [Act.put, List.setIfInBounds_toArray, List.set_cons_zero, List.set_cons_succ, i64_w, i32_w]
                  rfl
                refine one_ (i := 9) (N := some 29) #[true, true, true, true, true, true, true, true, true, true, false, false, false, false, false, false, false, false, false, false, false, false, false, false, false, false, false, false, false, false, false, false, false, false, false, false, false, false, false, false, false] rfl rfl (one_of HT_.out (by kernel_rfl)) (by decide) (fun K hK => ?_)
                refine goes_ Tryd.func12 (by kernel_rfl) rfl #[.slice Ao26 t183.length co26, .int .i64 a2] (by rfl) rfl rfl (by (try simp only [List.map_toArray, List.map_cons, List.map_nil]); first | done | rfl | (simp only [List.length_drop, List.length_take]; rfl)) ?_
                with_reducible refine (laws_raised.calls kj3 _ _ t183 a2 t189 _ ?side1 ?side2 A14.out).mono ?_
                (case side1 => repeat (first | exact (Kd.R_reads' HO185.out).2.2 | (with_reducible refine Kd.C_alloc ?_ _) | (with_reducible refine Kd.C_drewN ?_ _) | (with_reducible refine Kd.C_drew ?_)))
                (case side2 => exact (Kd.R_reads' HO185.out).2.1)
                rintro e w27 ⟨v190, rfl, ho0, hb⟩
                refine ⟨_, rfl, ?_⟩
                have n0_ := Aside0.mk (Kd.R_elder' (by (with_reducible repeat (first | apply Kd.R_alloc | apply Kd.R_drewN | apply Kd.R_drew)); exact HO185.out) (Kd.R_base ho0) hb)
                have n1_ := Aside0.mk (Kd.R_elder' (by (with_reducible repeat (first | apply Kd.R_alloc | apply Kd.R_drewN | apply Kd.R_drew)); exact HO188.out) (Kd.R_base ho0) hb)
                have n2_ := Aside0.mk (Kd.R_lower (Kd.R_new' (Kd.R_new' ho0 (Kd.R_lt (by (with_reducible repeat (first | apply Kd.R_alloc | apply Kd.R_drewN | apply Kd.R_drew)); exact HO185.out))) (Kd.R_lt (by (with_reducible repeat (first | apply Kd.R_alloc | apply Kd.R_drewN | apply Kd.R_drew)); exact HO188.out))) (below_size (by repeat (first | (with_reducible first | exact HB.out | apply below_alloc | apply pw_below_drewN | apply below_drew1) | exact HB.out))))
                have n3_ := Aside0.mk (below_step (by repeat (first | (with_reducible first | exact HB.out | apply below_alloc | apply pw_below_drewN | apply below_drew1) | exact HB.out)) hb)
                clear HO185
                clear HO188
                clear HB
                have HO185 := n0_
                have HO188 := n1_
                have HO191 := n2_
                have HB := n3_
                clear n0_ n1_ n2_ n3_
                (try clear hb)
                (try clear hb2)
                (try clear hk)
                (try clear hi)
                (try clear ho0)
                obtain ⟨Ao28, co28, eo28⟩ := Kd.R_slice HO188.out
                (first | subst eo28 | (injection eo28 with f1_ f2_ f3_; have f4_ := f1_.symm; have f5_ := f3_.symm; clear f1_ f2_ f3_; subst f4_; subst f5_))
                obtain ⟨Ao29, co29, eo29⟩ := Kd.R_slice HO191.out
                (first | subst eo29 | (injection eo29 with f1_ f2_ f3_; have f4_ := f1_.symm; have f5_ := f3_.symm; clear f1_ f2_ f3_; subst f4_; subst f5_))
                refine hK.out _ _ trivial (fun hHeld => ?_)
                clear hK K
                refine norm_ (a' := ?_) ?_ ?_
                rotate_left
                · show Act.put _ (some 29) _ = _
                  simp only [Act.put, List.setIfInBounds_toArray, List.set_cons_zero, List.set_cons_succ, i64_w, i32_w]
                  rfl
                refine one_ (i := 10) (N := some 30) #[true, true, true, true, true, true, true, true, true, true, true, false, false, false, false, false, false, false, false, false, false, false, false, false, false, false, false, false, false, false, false, false, false, false, false, false, false, false, false, false, false] rfl rfl (one_of HT_.out (by kernel_rfl)) (by decide) (fun K hK => ?_)
                refine goes_ Tryd.func9 (by kernel_rfl) rfl #[.slice Ao28 t186.length co28, .slice Ao29 t189.length co29] (by rfl) rfl rfl (by (try simp only [List.map_toArray, List.map_cons, List.map_nil]); first | done | rfl | (simp only [List.length_drop, List.length_take]; rfl)) ?_
                with_reducible refine (spec_SameNodes.calls kj3 _ _ t186 _ _ t189 true _ ?side1 ?side2 ?side3 ?side4 A15.out).mono ?_
                (case side1 => repeat (first | exact (Kd.R_reads' HO188.out).2.2 | (with_reducible refine Kd.C_alloc ?_ _) | (with_reducible refine Kd.C_drewN ?_ _) | (with_reducible refine Kd.C_drew ?_)))
                (case side2 => exact (Kd.R_reads' HO188.out).2.1)
                (case side3 => repeat (first | exact (Kd.R_reads' HO191.out).2.2 | (with_reducible refine Kd.C_alloc ?_ _) | (with_reducible refine Kd.C_drewN ?_ _) | (with_reducible refine Kd.C_drew ?_)))
                (case side4 => exact (Kd.R_reads' HO191.out).2.1)
                rintro e w' ⟨rfl, ⟨nd, rfl⟩⟩
                refine ⟨_, rfl, ?_⟩
                refine hK.out _ _ trivial (fun hHeld => ?_)
                clear hK K
                refine norm_ (a' := ?_) ?_ ?_
                rotate_left
                · show Act.put _ (some 30) _ = _
                  simp only [Act.put, List.setIfInBounds_toArray, List.set_cons_zero, List.set_cons_succ, i64_w, i32_w]
                  rfl
                refine pure_ (i := 11) (N := some 31) (v := ?_) (a' := ?_) #[true, true, true, true, true, true, true, true, true, true, true, true, false, false, false, false, false, false, false, false, false, false, false, false, false, false, false, false, false, false, false, false, false, false, false, false, false, false, false, false, false] rfl rfl (any_of HT_.out (by kernel_rfl)) (fun _ _ _ h => h) (Or.inl ⟨by rfl, ?_⟩) ?_ ?_
                rotate_left
                · intro w'
                  go_simp
                  with_reducible rfl
                rotate_left
                · simp only [Act.put, List.setIfInBounds_toArray, List.set_cons_zero, List.set_cons_succ, i64_w, i32_w]
                  rfl
                refine pure_ (i := 12) (N := some 32) (v := ?_) (a' := ?_) #[true, true, true, true, true, true, true, true, true, true, true, true, true, false, false, false, false, false, false, false, false, false, false, false, false, false, false, false, false, false, false, false, false, false, false, false, false, false, false, false, false] rfl rfl (any_of HT_.out (by kernel_rfl)) (fun _ _ _ h => h) (Or.inl ⟨by rfl, ?_⟩) ?_ ?_
                rotate_left
                · intro w'
                  go_simp
                  with_reducible rfl
                rotate_left
                · simp only [Act.put, List.setIfInBounds_toArray, List.set_cons_zero, List.set_cons_succ, i64_w, i32_w]
                  rfl
                refine pure_ (i := 13) (N := some 33) (v := ?_) (a' := ?_) #[true, true, true, true, true, true, true, true, true, true, true, true, true, true, false, false, false, false, false, false, false, false, false, false, false, false, false, false, false, false, false, false, false, false, false, false, false, false, false, false, false] rfl rfl (any_of HT_.out (by kernel_rfl)) (fun _ _ _ h => h) (Or.inl ⟨by rfl, ?_⟩) ?_ ?_
                rotate_left
                · intro w'
                  go_simp
                  with_reducible rfl
                rotate_left
                · simp only [Act.put, List.setIfInBounds_toArray, List.set_cons_zero, List.set_cons_succ, i64_w, i32_w]
                  rfl
                refine pure_ (i := 14) (N := some 34) (v := ?_) (a' := ?_) #[true, true, true, true, true, true, true, true, true, true, true, true, true, true, true, false, false, false, false, false, false, false, false, false, false, false, false, false, false, false, false, false, false, false, false, false, false, false, false, false, false] rfl rfl (any_of HT_.out (by kernel_rfl)) (fun _ _ _ h => h) (Or.inl ⟨by rfl, ?_⟩) ?_ ?_
                rotate_left
                · intro w'
                  go_simp
                  with_reducible rfl
                rotate_left
                · simp only [Act.put, List.setIfInBounds_toArray, List.set_cons_zero, List.set_cons_succ, i64_w, i32_w]
                  rfl
                refine pure_ (i := 15) (N := some 35) (v := ?_) (a' := ?_) #[true, true, true, true, true, true, true, true, true, true, true, true, true, true, true, true, false, false, false, false, false, false, false, false, false, false, false, false, false, false, false, false, false, false, false, false, false, false, false, false, false] rfl rfl (any_of HT_.out (by kernel_rfl)) (fun _ _ _ h => h) (Or.inl ⟨by rfl, ?_⟩) ?_ ?_
                rotate_left
                · intro w'
                  go_simp
                  with_reducible rfl
                rotate_left
                · simp only [Act.put, List.setIfInBounds_toArray, List.set_cons_zero, List.set_cons_succ, i64_w, i32_w]
                  rfl
                refine one_ (i := 16) (N := some 36) #[true, true, true, true, true, true, true, true, true, true, true, true, true, true, true, true, true, false, false, false, false, false, false, false, false, false, false, false, false, false, false, false, false, false, false, false, false, false, false, false, false] rfl rfl (one_of HT_.out (by kernel_rfl)) (by decide) (fun K hK => ?_)
                refine goes_ Tryd.func8 (by kernel_rfl) rfl #[.int .u64 a0, .int .u64 a1] (by rfl) rfl rfl (by (try simp only [List.map_toArray, List.map_cons, List.map_nil]); first | done | rfl | (simp only [List.length_drop, List.length_take]; rfl)) ?_
                with_reducible refine (impl_RangeSize.calls kj3 a0 a1 t193 _ A17.out).mono ?_
                rintro e w' ⟨rfl, ⟨nd, rfl⟩⟩
                refine ⟨_, rfl, ?_⟩
                refine hK.out _ _ trivial (fun hHeld => ?_)
                clear hK K
                refine norm_ (a' := ?_) ?_ ?_
                rotate_left
                · show Act.put _ (some 36) _ = _
                  simp only [Act.put, List.setIfInBounds_toArray, List.set_cons_zero, List.set_cons_succ, i64_w, i32_w]
                  rfl
                refine pure_ (i := 17) (N := some 37) (v := ?_) (a' := ?_) #[true, true, true, true, true, true, true, true, true, true, true, true, true, true, true, true, true, true, false, false, false, false, false, false, false, false, false, false, false, false, false, false, false, false, false, false, false, false, false, false, false] rfl rfl (any_of HT_.out (by kernel_rfl)) (fun _ _ _ h => h) (Or.inl ⟨by rfl, ?_⟩) ?_ ?_
                rotate_left
                · intro w'
                  go_simp
                  with_reducible rfl
                rotate_left
                · simp only [Act.put, List.setIfInBounds_toArray, List.set_cons_zero, List.set_cons_succ, i64_w, i32_w]
                  rfl
                refine pure_ (i := 18) (N := some 38) (v := ?_) (a' := ?_) #[true, true, true, true, true, true, true, true, true, true, true, true, true, true, true, true, true, true, true, false, false, false, false, false, false, false, false, false, false, false, false, false, false, false, false, false, false, false, false, false, false] rfl rfl (any_of HT_.out (by kernel_rfl)) (fun _ _ _ h => h) (Or.inl ⟨by rfl, ?_⟩) ?_ ?_
                rotate_left
                · intro w'
                  go_simp
                  with_reducible rfl
                rotate_left
                · simp only [Act.put, List.setIfInBounds_toArray, List.set_cons_zero, List.set_cons_succ, i64_w, i32_w]
                  rfl
                refine pure_ (i := 19) (N := some 39) (v := ?_) (a' := ?_) #[true, true, true, true, true, true, true, true, true, true, true, true, true, true, true, true, true, true, true, true, false, false, false, false, false, false, false, false, false, false, false, false, false, false, false, false, false, false, false, false, false] rfl rfl (any_of HT_.out (by kernel_rfl)) (fun _ _ _ h => h) (Or.inl ⟨by rfl, ?_⟩) ?_ ?_
                rotate_left
                · intro w'
                  go_simp
                  with_reducible rfl
                rotate_left
                · simp only [Act.put, List.setIfInBounds_toArray, List.set_cons_zero, List.set_cons_succ, i64_w, i32_w]
                  rfl
                refine pure_ (i := 20) (N := some 40) (v := ?_) (a' := ?_) #[true, true, true, true, true, true, true, true, true, true, true, true, true, true, true, true, true, true, true, true, true, false, false, false, false, false, false, false, false, false, false, false, false, false, false, false, false, false, false, false, false] rfl rfl (any_of HT_.out (by kernel_rfl)) (fun _ _ _ h => h) (Or.inl ⟨by rfl, ?_⟩) ?_ ?_
                rotate_left
                · intro w'
                  go_simp
                  with_reducible rfl
                rotate_left
                · simp only [Act.put, List.setIfInBounds_toArray, List.set_cons_zero, List.set_cons_succ, i64_w, i32_w]
                  rfl
                refine pure_ (i := 21) (N := some 41) (v := ?_) (a' := ?_) #[true, true, true, true, true, true, true, true, true, true, true, true, true, true, true, true, true, true, true, true, true, true, false, false, false, false, false, false, false, false, false, false, false, false, false, false, false, false, false, false, false] rfl rfl (any_of HT_.out (by kernel_rfl)) (fun _ _ _ h => h) (Or.inl ⟨by rfl, ?_⟩) ?_ ?_
                rotate_left
                · intro w'
                  go_simp
                  with_reducible rfl
                rotate_left
                · simp only [Act.put, List.setIfInBounds_toArray, List.set_cons_zero, List.set_cons_succ, i64_w, i32_w]
                  rfl
                refine pure_ (i := 22) (N := some 42) (v := ?_) (a' := ?_) #[true, true, true, true, true, true, true, true, true, true, true, true, true, true, true, true, true, true, true, true, true, true, true, false, false, false, false, false, false, false, false, false, false, false, false, false, false, false, false, false, false] rfl rfl (any_of HT_.out (by kernel_rfl)) (fun _ _ _ h => h) (Or.inl ⟨by rfl, ?_⟩) ?_ ?_
                rotate_left
                · intro w'
                  go_simp
                  with_reducible rfl
                rotate_left
                · simp only [Act.put, List.setIfInBounds_toArray, List.set_cons_zero, List.set_cons_succ, i64_w, i32_w]
                  rfl
                refine pure_ (i := 23) (N := some 43) (v := ?_) (a' := ?_) #[true, true, true, true, true, true, true, true, true, true, true, true, true, true, true, true, true, true, true, true, true, true, true, true, false, false, false, false, false, false, false, false, false, false, false, false, false, false, false, false, false] rfl rfl (any_of HT_.out (by kernel_rfl)) (fun _ _ _ h => h) (Or.inl ⟨by rfl, ?_⟩) ?_ ?_
                rotate_left
                · intro w'
                  go_simp
                  with_reducible rfl
                rotate_left
                · simp only [Act.put, List.setIfInBounds_toArray, List.set_cons_zero, List.set_cons_succ, i64_w, i32_w]
                  rfl
                refine pure_ (i := 24) (N := some 44) (v := ?_) (a' := ?_) #[true, true, true, true, true, true, true, true, true, true, true, true, true, true, true, true, true, true, true, true, true, true, true, true, true, false, false, false, false, false, false, false, false, false, false, false, false, false, false, false, false] rfl rfl (any_of HT_.out (by kernel_rfl)) (fun _ _ _ h => h) (Or.inl ⟨by rfl, ?_⟩) ?_ ?_
                rotate_left
                · intro w'
                  go_simp
                  with_reducible rfl
                rotate_left
                · simp only [Act.put, List.setIfInBounds_toArray, List.set_cons_zero, List.set_cons_succ, i64_w, i32_w]
                  rfl
                refine pure_ (i := 25) (N := some 45) (v := ?_) (a' := ?_) #[true, true, true, true, true, true, true, true, true, true, true, true, true, true, true, true, true, true, true, true, true, true, true, true, true, true, false, false, false, false, false, false, false, false, false, false, false, false, false, false, false] rfl rfl (any_of HT_.out (by kernel_rfl)) (fun _ _ _ h => h) (Or.inl ⟨by rfl, ?_⟩) ?_ ?_
                rotate_left
                · intro w'
                  go_simp
                  with_reducible rfl
                rotate_left
                · simp only [Act.put, List.setIfInBounds_toArray, List.set_cons_zero, List.set_cons_succ, i64_w, i32_w]
                  rfl
                refine pure_ (i := 27) (N := some 47) (v := ?_) (a' := ?_) #[true, true, true, true, true, true, true, true, true, true, true, true, true, true, true, true, true, true, true, true, true, true, true, true, true, true, false, true, false, false, false, false, false, false, false, false, false, false, false, false, false] rfl rfl (any_of HT_.out (by kernel_rfl)) (fun _ _ _ h => h) (Or.inl ⟨by rfl, ?_⟩) ?_ ?_
                rotate_left
                · intro w'
                  go_simp
                  with_reducible rfl
                rotate_left
                · simp only [Act.put, List.setIfInBounds_toArray, List.set_cons_zero, List.set_cons_succ, i64_w, i32_w]
                  rfl
                refine pure_ (i := 28) (N := some 48) (v := ?_) (a' := ?_) #[true, true, true, true, true, true, true, true, true, true, true, true, true, true, true, true, true, true, true, true, true, true, true, true, true, true, false, true, true, false, false, false, false, false, false, false, false, false, false, false, false] rfl rfl (any_of HT_.out (by kernel_rfl)) (fun _ _ _ h => h) (Or.inl ⟨by rfl, ?_⟩) ?_ ?_
                rotate_left
                · intro w'
                  go_simp
                  with_reducible rfl
                rotate_left
                · simp only [Act.put, List.setIfInBounds_toArray, List.set_cons_zero, List.set_cons_succ, i64_w, i32_w]
                  rfl
                refine one_ (i := 26) (N := some 46) #[true, true, true, true, true, true, true, true, true, true, true, true, true, true, true, true, true, true, true, true, true, true, true, true, true, true, true, true, true, false, false, false, false, false, false, false, false, false, false, false, false] rfl rfl (one_of HT_.out (by kernel_rfl)) (by decide) (fun K hK => ?_)
                refine goes_ Tryd.func8 (by kernel_rfl) rfl #[.int .u64 ji10, .int .u64 ji12] (by rfl) rfl rfl (by (try simp only [List.map_toArray, List.map_cons, List.map_nil]); first | done | (simp only [hji10, hji12]; rfl) | rfl | (simp only [List.length_drop, List.length_take]; rfl)) ?_
                with_reducible refine (impl_RangeSize.calls kj3 ji10 ji12 t194 _ A21.out).mono ?_
                rintro e w' ⟨rfl, ⟨nd, rfl⟩⟩
                refine ⟨_, rfl, ?_⟩
                refine hK.out _ _ trivial (fun hHeld => ?_)
                clear hK K
                refine norm_ (a' := ?_) ?_ ?_
                rotate_left
                · show Act.put _ (some 46) _ = _
                  simp only [Act.put, List.setIfInBounds_toArray, List.set_cons_zero, List.set_cons_succ, i64_w, i32_w]
                  rfl
                refine pure_ (i := 29) (N := some 49) (v := ?_) (a' := ?_) #[true, true, true, true, true, true, true, true, true, true, true, true, true, true, true, true, true, true, true, true, true, true, true, true, true, true, true, true, true, true, false, false, false, false, false, false, false, false, false, false, false] rfl rfl (any_of HT_.out (by kernel_rfl)) (fun _ _ _ h => h) (Or.inl ⟨by rfl, ?_⟩) ?_ ?_
                rotate_left
                · intro w'
                  go_simp
                  with_reducible rfl
                rotate_left
                · simp only [Act.put, List.setIfInBounds_toArray, List.set_cons_zero, List.set_cons_succ, i64_w, i32_w]
                  rfl
                refine pure_ (i := 30) (N := some 50) (v := ?_) (a' := ?_) #[true, true, true, true, true, true, true, true, true, true, true, true, true, true, true, true, true, true, true, true, true, true, true, true, true, true, true, true, true, true, true, false, false, false, false, false, false, false, false, false, false] rfl rfl (any_of HT_.out (by kernel_rfl)) (fun _ _ _ h => h) (Or.inl ⟨by rfl, ?_⟩) ?_ ?_
                rotate_left
                · intro w'
                  go_simp
                  with_reducible rfl
                rotate_left
                · simp only [Act.put, List.setIfInBounds_toArray, List.set_cons_zero, List.set_cons_succ, i64_w, i32_w]
                  rfl
                refine pure_ (i := 31) (N := some 51) (v := ?_) (a' := ?_) #[true, true, true, true, true, true, true, true, true, true, true, true, true, true, true, true, true, true, true, true, true, true, true, true, true, true, true, true, true, true, true, true, false, false, false, false, false, false, false, false, false] rfl rfl (any_of HT_.out (by kernel_rfl)) (fun _ _ _ h => h) (Or.inl ⟨by rfl, ?_⟩) ?_ ?_
                rotate_left
                · intro w'
                  go_simp
                  with_reducible rfl
                rotate_left
                · simp only [Act.put, List.setIfInBounds_toArray, List.set_cons_zero, List.set_cons_succ, i64_w, i32_w]
                  rfl
                refine pure_ (i := 32) (N := some 52) (v := ?_) (a' := ?_) #[true, true, true, true, true, true, true, true, true, true, true, true, true, true, true, true, true, true, true, true, true, true, true, true, true, true, true, true, true, true, true, true, true, false, false, false, false, false, false, false, false] rfl rfl (any_of HT_.out (by kernel_rfl)) (fun _ _ _ h => h) (Or.inl ⟨by rfl, ?_⟩) ?_ ?_
                rotate_left
                · intro w'
                  go_simp
                  with_reducible rfl
                rotate_left
                · simp only [Act.put, List.setIfInBounds_toArray, List.set_cons_zero, List.set_cons_succ, i64_w, i32_w]
                  rfl
                refine pure_ (i := 33) (N := some 53) (v := ?_) (a' := ?_) #[true, true, true, true, true, true, true, true, true, true, true, true, true, true, true, true, true, true, true, true, true, true, true, true, true, true, true, true, true, true, true, true, true, true, false, false, false, false, false, false, false] rfl rfl (any_of HT_.out (by kernel_rfl)) (fun _ _ _ h => h) (Or.inl ⟨by rfl, ?_⟩) ?_ ?_
                rotate_left
                · intro w'
                  go_simp
                  with_reducible rfl
                rotate_left
                · simp only [Act.put, List.setIfInBounds_toArray, List.set_cons_zero, List.set_cons_succ, i64_w, i32_w]
                  rfl
                refine pure_ (i := 34) (N := some 54) (v := ?_) (a' := ?_) #[true, true, true, true, true, true, true, true, true, true, true, true, true, true, true, true, true, true, true, true, true, true, true, true, true, true, true, true, true, true, true, true, true, true, true, false, false, false, false, false, false] rfl rfl (any_of HT_.out (by kernel_rfl)) (fun _ _ _ h => h) (Or.inl ⟨by rfl, ?_⟩) ?_ ?_
                rotate_left
                · intro w'
                  go_simp
                  with_reducible rfl
                rotate_left
                · simp only [Act.put, List.setIfInBounds_toArray, List.set_cons_zero, List.set_cons_succ, i64_w, i32_w]
                  rfl
                refine pure_ (i := 35) (N := some 55) (v := ?_) (a' := ?_) #[true, true, true, true, true, true, true, true, true, true, true, true, true, true, true, true, true, true, true, true, true, true, true, true, true, true, true, true, true, true, true, true, true, true, true, true, false, false, false, false, false] rfl rfl (any_of HT_.out (by kernel_rfl)) (fun _ _ _ h => h) (Or.inl ⟨by rfl, ?_⟩) ?_ ?_
                rotate_left
                · intro w'
                  go_simp
                  with_reducible rfl
                rotate_left
                · simp only [Act.put, List.setIfInBounds_toArray, List.set_cons_zero, List.set_cons_succ, i64_w, i32_w]
                  rfl
                refine pure_ (i := 36) (N := some 56) (v := ?_) (a' := ?_) #[true, true, true, true, true, true, true, true, true, true, true, true, true, true, true, true, true, true, true, true, true, true, true, true, true, true, true, true, true, true, true, true, true, true, true, true, true, false, false, false, false] rfl rfl (any_of HT_.out (by kernel_rfl)) (fun _ _ _ h => h) (Or.inl ⟨by rfl, ?_⟩) ?_ ?_
                rotate_left
                · intro w'
                  go_simp
                  with_reducible rfl
                rotate_left
                · simp only [Act.put, List.setIfInBounds_toArray, List.set_cons_zero, List.set_cons_succ, i64_w, i32_w]
                  rfl
                refine pure_ (i := 37) (N := some 57) (v := ?_) (a' := ?_) #[true, true, true, true, true, true, true, true, true, true, true, true, true, true, true, true, true, true, true, true, true, true, true, true, true, true, true, true, true, true, true, true, true, true, true, true, true, true, false, false, false] rfl rfl (any_of HT_.out (by kernel_rfl)) (fun _ _ _ h => h) (Or.inl ⟨by rfl, ?_⟩) ?_ ?_
                rotate_left
                · intro w'
                  go_simp
                  with_reducible rfl
                rotate_left
                · simp only [Act.put, List.setIfInBounds_toArray, List.set_cons_zero, List.set_cons_succ, i64_w, i32_w]
                  rfl
                refine pure_ (i := 38) (N := some 58) (v := ?_) (a' := ?_) #[true, true, true, true, true, true, true, true, true, true, true, true, true, true, true, true, true, true, true, true, true, true, true, true, true, true, true, true, true, true, true, true, true, true, true, true, true, true, true, false, false] rfl rfl (any_of HT_.out (by kernel_rfl)) (fun _ _ _ h => h) (Or.inl ⟨by rfl, ?_⟩) ?_ ?_
                rotate_left
                · intro w'
                  go_simp
                  with_reducible rfl
                rotate_left
                · simp only [Act.put, List.setIfInBounds_toArray, List.set_cons_zero, List.set_cons_succ, i64_w, i32_w]
                  rfl
                refine pure_ (i := 39) (N := some 59) (v := ?_) (a' := ?_) #[true, true, true, true, true, true, true, true, true, true, true, true, true, true, true, true, true, true, true, true, true, true, true, true, true, true, true, true, true, true, true, true, true, true, true, true, true, true, true, true, false] rfl rfl (any_of HT_.out (by kernel_rfl)) (fun _ _ _ h => h) (Or.inl ⟨by rfl, ?_⟩) ?_ ?_
                rotate_left
                · intro w'
                  go_simp
                  with_reducible rfl
                rotate_left
                · simp only [Act.put, List.setIfInBounds_toArray, List.set_cons_zero, List.set_cons_succ, i64_w, i32_w]
                  rfl
                refine pure_ (i := 40) (N := some 6) (v := ?_) (a' := ?_) #[true, true, true, true, true, true, true, true, true, true, true, true, true, true, true, true, true, true, true, true, true, true, true, true, true, true, true, true, true, true, true, true, true, true, true, true, true, true, true, true, true] rfl rfl (any_of HT_.out (by kernel_rfl)) (fun _ _ _ h => h) (Or.inl ⟨by rfl, ?_⟩) ?_ ?_
                rotate_left
                · intro w'
                  go_simp
                  with_reducible rfl
                rotate_left
                · simp only [Act.put, List.setIfInBounds_toArray, List.set_cons_zero, List.set_cons_succ, i64_w, i32_w]
                  rfl
                refine done_ (done_of HT_.out (by kernel_rfl)) ?_
                try go_wp2
                go_ret
                exact ⟨by first | rfl | (simp [errW_none, errW_some] <;> rfl) | (simp only [← hji10, ← hji12]; first | rfl | (simp [errW_none, errW_some] <;> rfl)) | (simp [*, errW_none, errW_some] <;> rfl), by repeat (first | (with_reducible first | exact HB.out | apply below_alloc | apply pw_below_drewN | apply below_drew1) | exact HB.out)⟩
              · rw [if_neg c22] at H
                exact absurd H (by simp)
            · rw [if_neg c18] at H
              exact absurd H (by simp)
          · replace c16 := Bool.eq_false_iff.mpr c16
            subst c16
            have H1 : (none) = some r := by rw [if_neg (show ¬ (false = true) by decide)] at H; exact H
            clear H
            have H := H1
            clear H1
            exact absurd H (by simp)
        · rw [if_neg c9] at H
          exact absurd H (by simp)

/-- THE ONE PURE STATEMENT of laws_FnRangeNodesScaled: yours. -/
def laws_FnRangeNodesScaled.Pure : Prop := ∀ (a0 : Int) (a1 : Int) (a2 : Int), (Lit.int .u64 a0).wf = true → (Lit.int .u64 a1).wf = true → (Lit.int .i64 a2).wf = true → ∃ k, laws_FnRangeNodesScaled.f k a0 a1 a2 = some true
theorem laws_FnRangeNodesScaled.walk (P : laws_FnRangeNodesScaled.Pure) (a0 : Int) (a1 : Int) (a2 : Int) (w : World) (hG : Glob w) (w0 : (Lit.int .u64 a0).wf = true) (w1 : (Lit.int .u64 a1).wf = true) (w2 : (Lit.int .i64 a2).wf = true) :
    Calls Tryd.prog 4 #[.int .u64 a0, .int .u64 a1, .int .i64 a2] w fun e w' => e = .returned (.bool true) ∧ Below w.heap.size w w' := by
  obtain ⟨k, h⟩ := P a0 a1 a2 w0 w1 w2
  refine (laws_FnRangeNodesScaled.calls k a0 a1 a2 true w hG h).mono ?_
  rintro e w' ⟨rfl, hd⟩
  exact ⟨rfl, hd⟩

/-! ### compact_NodeID_Coverage: function 38 -/
def compact_NodeID_Coverage.f (a0_0 : Int) (a0_1 : Int) : Option (Int × Int) := if 0 ≤ a0_0 then (some (shl .u64 a0_1 a0_0, shl .u64 (IntKind.u64.wrap (a0_1 + 1)) a0_0)) else (none)
set_option maxHeartbeats 8000000 in
set_option maxRecDepth 100000 in
theorem compact_NodeID_Coverage.calls (a0_0 : Int) (a0_1 : Int) (r1 : Int) (r2 : Int) (w : World) (h : compact_NodeID_Coverage.f a0_0 a0_1 = some (r1, r2)) :
    Calls Tryd.prog 38 #[.agg #[.int .u64 a0_0, .int .u64 a0_1]] w fun e w' => e = .returned (.tuple #[.int .u64 r1, .int .u64 r2]) ∧ Below w.heap.size w w' := by
  have hu46 := Tryd.underlying46
  have HB := Aside0.mk (Below.refl w.heap.size w)
  have H : (if 0 ≤ a0_0 then (some (shl .u64 a0_1 a0_0, shl .u64 (IntKind.u64.wrap (a0_1 + 1)) a0_0)) else (none)) = some (r1, r2) := h
  clear h
  by_cases c2 : 0 ≤ a0_0
  · rw [if_pos c2] at H
    have c2b0 := eq_true c2
    have c2b1 : decide (0 ≤ a0_0) = true := decide_eq_true c2
    clear c2
    obtain ⟨ji3, hji3⟩ : ∃ j_ : Int, (shl .u64 a0_1 a0_0) = j_ := ⟨_, rfl⟩
    replace H : (some (ji3, shl .u64 (IntKind.u64.wrap (a0_1 + 1)) a0_0)) = some (r1, r2) := by first | (rw [hji3] at H; exact H) | (simp only [hji3] at H ⊢; exact H)
    have hji3_ : (IntKind.u64.wrap (a0_1 * 2 ^ min a0_0.toNat 64)) = ji3 := hji3
    have hji3z : a0_0 ≤ 64 → (IntKind.u64.wrap (a0_1 * 2 ^ a0_0.toNat)) = ji3 := shl_small hji3
    have c4b0 := eq_true (of_decide_eq_true (by first | (with_reducible assumption) | assumption) : 0 ≤ a0_0)
    obtain ⟨ji5, hji5⟩ : ∃ j_ : Int, (shl .u64 (IntKind.u64.wrap (a0_1 + 1)) a0_0) = j_ := ⟨_, rfl⟩
    replace H : (some (ji3, ji5)) = some (r1, r2) := by first | (rw [hji5] at H; exact H) | (simp only [hji5] at H ⊢; exact H)
    have hji5_ : (IntKind.u64.wrap ((IntKind.u64.wrap (a0_1 + 1)) * 2 ^ min a0_0.toNat 64)) = ji5 := hji5
    have hji5z : a0_0 ≤ 64 → (IntKind.u64.wrap ((IntKind.u64.wrap (a0_1 + 1)) * 2 ^ a0_0.toNat)) = ji5 := shl_small hji5
    simp only [Option.some.injEq, Prod.mk.injEq] at H
    obtain ⟨rfl, rfl⟩ := H
    go_enter Tryd.func38, Tryd.ntmps38
    go_wp2_with (first | ((with_reducible refine gate_dst (N := 1) rfl ?_); refine box_event ?hg (N := 1) ?hd (cs := #[.int .u64 a0_0, .int .u64 a0_1]) (t := 46) ?hr ?_; (case hd => rfl); (case hg => rfl); (case hr => first | (go_simp; done) | (go_simp; rfl)); intro gb195 hg w6 hbox hb; have n0_ := Aside0.mk (below_step (by repeat (first | (with_reducible first | exact HB.out | apply below_alloc | apply pw_below_drewN | apply below_drew1) | exact HB.out)) hb); have n1_ := Aside0.mk (hbox); have n2_ := Aside0.mk ((by rw [hg]; exact (below_size (by repeat (first | (with_reducible first | exact HB.out | apply below_alloc | apply pw_below_drewN | apply below_drew1) | exact HB.out))) : w.heap.size ≤ gb195)); have n3_ := Aside0.mk ((by rw [hg]; exact (below_size (by repeat (first | (with_reducible first | exact HB.out | apply below_alloc | apply pw_below_drewN | apply below_drew1) | exact HB.out))) : w.heap.size ≤ gb195)); clear HB; have HB := n0_; have BK195 := n1_; have GW195 := n2_; have GE195 := n3_; clear n0_ n1_ n2_ n3_; clear hb hbox hg; have hcz7_0 : w6.cell? ⟨gb195, 0, none⟩ = some (.int .u64 a0_0) := (blk_cell BK195.out 0).trans rfl; have hcz7_1 : w6.cell? ⟨gb195, 1, none⟩ = some (.int .u64 a0_1) := (blk_cell BK195.out 1).trans rfl; have hfz7_0 := blk_frozen BK195.out 0; have hfz7_1 := blk_frozen BK195.out 1))
    repeat (go_quiet (first | ((with_reducible refine gate_dst (N := 1) rfl ?_); refine box_event ?hg (N := 1) ?hd (cs := #[.int .u64 a0_0, .int .u64 a0_1]) (t := 46) ?hr ?_; (case hd => rfl); (case hg => rfl); (case hr => first | (go_simp; done) | (go_simp; rfl)); intro gb195 hg w6 hbox hb; have n0_ := Aside0.mk (below_step (by repeat (first | (with_reducible first | exact HB.out | apply below_alloc | apply pw_below_drewN | apply below_drew1) | exact HB.out)) hb); have n1_ := Aside0.mk (hbox); have n2_ := Aside0.mk ((by rw [hg]; exact (below_size (by repeat (first | (with_reducible first | exact HB.out | apply below_alloc | apply pw_below_drewN | apply below_drew1) | exact HB.out))) : w.heap.size ≤ gb195)); have n3_ := Aside0.mk ((by rw [hg]; exact (below_size (by repeat (first | (with_reducible first | exact HB.out | apply below_alloc | apply pw_below_drewN | apply below_drew1) | exact HB.out))) : w.heap.size ≤ gb195)); clear HB; have HB := n0_; have BK195 := n1_; have GW195 := n2_; have GE195 := n3_; clear n0_ n1_ n2_ n3_; clear hb hbox hg; have hcz7_0 : w6.cell? ⟨gb195, 0, none⟩ = some (.int .u64 a0_0) := (blk_cell BK195.out 0).trans rfl; have hcz7_1 : w6.cell? ⟨gb195, 1, none⟩ = some (.int .u64 a0_1) := (blk_cell BK195.out 1).trans rfl; have hfz7_0 := blk_frozen BK195.out 0; have hfz7_1 := blk_frozen BK195.out 1)); try go_wp2_with (first | ((with_reducible refine gate_dst (N := 1) rfl ?_); refine box_event ?hg (N := 1) ?hd (cs := #[.int .u64 a0_0, .int .u64 a0_1]) (t := 46) ?hr ?_; (case hd => rfl); (case hg => rfl); (case hr => first | (go_simp; done) | (go_simp; rfl)); intro gb195 hg w6 hbox hb; have n0_ := Aside0.mk (below_step (by repeat (first | (with_reducible first | exact HB.out | apply below_alloc | apply pw_below_drewN | apply below_drew1) | exact HB.out)) hb); have n1_ := Aside0.mk (hbox); have n2_ := Aside0.mk ((by rw [hg]; exact (below_size (by repeat (first | (with_reducible first | exact HB.out | apply below_alloc | apply pw_below_drewN | apply below_drew1) | exact HB.out))) : w.heap.size ≤ gb195)); have n3_ := Aside0.mk ((by rw [hg]; exact (below_size (by repeat (first | (with_reducible first | exact HB.out | apply below_alloc | apply pw_below_drewN | apply below_drew1) | exact HB.out))) : w.heap.size ≤ gb195)); clear HB; have HB := n0_; have BK195 := n1_; have GW195 := n2_; have GE195 := n3_; clear n0_ n1_ n2_ n3_; clear hb hbox hg; have hcz7_0 : w6.cell? ⟨gb195, 0, none⟩ = some (.int .u64 a0_0) := (blk_cell BK195.out 0).trans rfl; have hcz7_1 : w6.cell? ⟨gb195, 1, none⟩ = some (.int .u64 a0_1) := (blk_cell BK195.out 1).trans rfl; have hfz7_0 := blk_frozen BK195.out 0; have hfz7_1 := blk_frozen BK195.out 1)))
    go_ret2
    exact ⟨by first | rfl | (simp [errW_none, errW_some] <;> rfl) | (simp only [← hji3, ← hji5]; first | rfl | (simp [errW_none, errW_some] <;> rfl)) | (simp [*, errW_none, errW_some] <;> rfl), by repeat (first | (with_reducible first | exact HB.out | apply below_alloc | apply pw_below_drewN | apply below_drew1 | refine below_set ?_ GE195.out) | exact HB.out)⟩
  · rw [if_neg c2] at H
    exact absurd H (by simp)

/-! ### compact_NodeID_Parent: function 39 -/
def compact_NodeID_Parent.f (a0_0 : Int) (a0_1 : Int) : Option (Int × Int) := (compact_NewNodeID.f (IntKind.u64.wrap (a0_0 + 1)) (a0_1 / 2)).bind fun bt198 => (some (bt198.1, bt198.2))
set_option maxHeartbeats 8000000 in
set_option maxRecDepth 100000 in
theorem compact_NodeID_Parent.calls (a0_0 : Int) (a0_1 : Int) (r1 : Int) (r2 : Int) (w : World) (h : compact_NodeID_Parent.f a0_0 a0_1 = some (r1, r2)) :
    Calls Tryd.prog 39 #[.agg #[.int .u64 a0_0, .int .u64 a0_1]] w fun e w' => e = .returned (.agg #[.int .u64 r1, .int .u64 r2]) ∧ Below w.heap.size w w' := by
  have hu46 := Tryd.underlying46
  have HB := Aside0.mk (Below.refl w.heap.size w)
  have H : ((compact_NewNodeID.f (IntKind.u64.wrap (a0_0 + 1)) (a0_1 / 2)).bind fun bt198 => (some (bt198.1, bt198.2))) = some (r1, r2) := h
  clear h
  replace H := Option.bind_eq_some_iff.mp H
  obtain ⟨⟨t198, t199⟩, A20, H⟩ := H
  replace H : (some (t198, t199)) = some (r1, r2) := H
  have A2 := Aside0.mk A20
  clear A20
  simp only [Option.some.injEq, Prod.mk.injEq] at H
  obtain ⟨rfl, rfl⟩ := H
  go_enter Tryd.func39, Tryd.ntmps39
  go_wp2_with (first | ((with_reducible refine gate_dst (N := 1) rfl ?_); refine box_event ?hg (N := 1) ?hd (cs := #[.int .u64 a0_0, .int .u64 a0_1]) (t := 46) ?hr ?_; (case hd => rfl); (case hg => rfl); (case hr => first | (go_simp; done) | (go_simp; rfl)); intro gb196 hg w3 hbox hb; have n0_ := Aside0.mk (below_step (by repeat (first | (with_reducible first | exact HB.out | apply below_alloc | apply pw_below_drewN | apply below_drew1) | exact HB.out)) hb); have n1_ := Aside0.mk (hbox); have n2_ := Aside0.mk ((by rw [hg]; exact (below_size (by repeat (first | (with_reducible first | exact HB.out | apply below_alloc | apply pw_below_drewN | apply below_drew1) | exact HB.out))) : w.heap.size ≤ gb196)); have n3_ := Aside0.mk ((by rw [hg]; exact (below_size (by repeat (first | (with_reducible first | exact HB.out | apply below_alloc | apply pw_below_drewN | apply below_drew1) | exact HB.out))) : w.heap.size ≤ gb196)); clear HB; have HB := n0_; have BK196 := n1_; have GW196 := n2_; have GE196 := n3_; clear n0_ n1_ n2_ n3_; clear hb hbox hg) | ((with_reducible refine gate_dst (N := 2) rfl ?_); refine box_event ?hg (N := 2) ?hd (cs := #[.int .u64 0, .int .u64 0]) (t := 46) ?hr ?_; (case hd => rfl); (case hg => rfl); (case hr => first | (go_simp; done) | (go_simp; rfl)); intro gb197 hg w4 hbox hb; have n0_ := Aside0.mk (blk_below (g := gb196) (o := .cells #[.int .u64 a0_0, .int .u64 a0_1] 46 (0, 0)) (by (with_reducible repeat (first | refine blk_drewN ?_ _ | refine blk_drew ?_ | refine blk_alloc ?_ _)); exact BK196.out) hb); have n1_ := Aside0.mk (below_step (by repeat (first | (with_reducible first | exact HB.out | apply below_alloc | apply pw_below_drewN | apply below_drew1 | refine below_set ?_ GE196.out) | exact HB.out)) hb); have n2_ := Aside0.mk (hbox); have n3_ := Aside0.mk ((by rw [hg]; exact (below_size (by repeat (first | (with_reducible first | exact HB.out | apply below_alloc | apply pw_below_drewN | apply below_drew1 | refine below_set ?_ GE196.out) | exact HB.out))) : w.heap.size ≤ gb197)); have n4_ := Aside0.mk ((by rw [hg]; exact (below_size (by repeat (first | (with_reducible first | exact HB.out | apply below_alloc | apply pw_below_drewN | apply below_drew1 | refine below_set ?_ GE196.out) | exact HB.out))) : w.heap.size ≤ gb197)); have n5_ := Aside0.mk ((by rw [hg]; exact Nat.ne_of_lt (blk_lt (g := gb196) (o := .cells #[.int .u64 a0_0, .int .u64 a0_1] 46 (0, 0)) (by (with_reducible repeat (first | refine blk_drewN ?_ _ | refine blk_drew ?_ | refine blk_alloc ?_ _)); exact BK196.out)) : gb196 ≠ gb197)); have n6_ := Aside0.mk ((by rw [hg]; exact Nat.ne_of_gt (blk_lt (g := gb196) (o := .cells #[.int .u64 a0_0, .int .u64 a0_1] 46 (0, 0)) (by (with_reducible repeat (first | refine blk_drewN ?_ _ | refine blk_drew ?_ | refine blk_alloc ?_ _)); exact BK196.out)) : gb197 ≠ gb196)); clear BK196; clear HB; have BK196 := n0_; have HB := n1_; have BK197 := n2_; have GW197 := n3_; have GE197 := n4_; have NB196_197 := n5_; have NB197_196 := n6_; clear n0_ n1_ n2_ n3_ n4_ n5_ n6_; clear hb hbox hg; have hnb5 := NB196_197.out; have hnc5 := NB197_196.out; have hcz6_0 : w4.cell? ⟨gb196, 0, none⟩ = some (.int .u64 a0_0) := (blk_cell BK196.out 0).trans rfl; have hcz6_1 : w4.cell? ⟨gb196, 1, none⟩ = some (.int .u64 a0_1) := (blk_cell BK196.out 1).trans rfl; have hfz6_0 := blk_frozen BK196.out 0; have hfz6_1 := blk_frozen BK196.out 1) | ((with_reducible refine gate_callee (f := 28) rfl ?_); refine goesL_ (some 9) rfl rfl Tryd.func28 (by kernel_rfl) rfl #[.int .u64 (IntKind.u64.wrap (a0_0 + 1)), .int .u64 (a0_1 / 2)] rfl (by (try simp only [List.map_toArray, List.map_cons, List.map_nil]); first | done | rfl | (simp only [List.length_drop, List.length_take]; rfl)) ?_; (with_reducible refine (compact_NewNodeID.calls (IntKind.u64.wrap (a0_0 + 1)) (a0_1 / 2) t198 t199 _ A2.out).mono ?_); rintro e w7 ⟨rfl, hb⟩; refine ⟨_, rfl, ?_⟩; have n0_ := Aside0.mk (blk_below (g := gb196) (o := .cells #[.int .u64 a0_0, .int .u64 a0_1] 46 (0, 0)) (by (with_reducible repeat (first | refine blk_drewN ?_ _ | refine blk_drew ?_ | refine blk_alloc ?_ _)); exact BK196.out) hb); have n1_ := Aside0.mk (blk_below (g := gb197) (o := .cells #[.int .u64 0, .int .u64 0] 46 (0, 0)) (by (with_reducible repeat (first | refine blk_drewN ?_ _ | refine blk_drew ?_ | refine blk_alloc ?_ _)); exact BK197.out) hb); have n2_ := Aside0.mk (below_step (by repeat (first | (with_reducible first | exact HB.out | apply below_alloc | apply pw_below_drewN | apply below_drew1 | refine below_set ?_ GE196.out | refine below_set ?_ GE197.out) | exact HB.out)) hb); clear BK196; clear BK197; clear HB; have BK196 := n0_; have BK197 := n1_; have HB := n2_; clear n0_ n1_ n2_; (try clear hb); (try clear hb2); (try clear hk); (try clear hi); have hcz8_0 : w7.cell? ⟨gb197, 0, none⟩ = some (.int .u64 0) := (blk_cell BK197.out 0).trans rfl; have hcz8_1 : w7.cell? ⟨gb197, 1, none⟩ = some (.int .u64 0) := (blk_cell BK197.out 1).trans rfl; have hfz8_0 := blk_frozen BK197.out 0; have hfz8_1 := blk_frozen BK197.out 1))
  refine bodyPost_ret (results_cell_row rfl _ _ gb197 46 #[.int .u64 t198, .int .u64 t199] (0, 0) _ rfl (by (with_reducible repeat (first | refine blk_drewN ?_ _ | refine blk_drew ?_ | refine blk_alloc ?_ _)); refine blk_put (cs := #[.int .u64 t198, .int .u64 0]) ?_ 1 _ rfl; (with_reducible repeat (first | refine blk_drewN ?_ _ | refine blk_drew ?_ | refine blk_alloc ?_ _)); refine blk_put (cs := #[.int .u64 0, .int .u64 0]) ?_ 0 _ rfl; (with_reducible repeat (first | refine blk_drewN ?_ _ | refine blk_drew ?_ | refine blk_alloc ?_ _)); exact BK197.out) Tryd.underlying46 rfl (by kernel_rfl)) rfl ?_
  exact ⟨by first | rfl | (simp [errW_none, errW_some] <;> rfl) | (simp [*, errW_none, errW_some] <;> rfl), by repeat (first | (with_reducible first | exact HB.out | apply below_alloc | apply pw_below_drewN | apply below_drew1 | refine below_set ?_ GE196.out | refine below_set ?_ GE197.out) | exact HB.out)⟩

/-! ### compact_NodeID_Sibling: function 40 -/
def compact_NodeID_Sibling.f (a0_0 : Int) (a0_1 : Int) : Option (Int × Int) := (compact_NewNodeID.f a0_0 (Go.bits .xor .u64 a0_1 1)).bind fun bt202 => (some (bt202.1, bt202.2))
set_option maxHeartbeats 8000000 in
set_option maxRecDepth 100000 in
theorem compact_NodeID_Sibling.calls (a0_0 : Int) (a0_1 : Int) (r1 : Int) (r2 : Int) (w : World) (h : compact_NodeID_Sibling.f a0_0 a0_1 = some (r1, r2)) :
    Calls Tryd.prog 40 #[.agg #[.int .u64 a0_0, .int .u64 a0_1]] w fun e w' => e = .returned (.agg #[.int .u64 r1, .int .u64 r2]) ∧ Below w.heap.size w w' := by
  have hu46 := Tryd.underlying46
  have HB := Aside0.mk (Below.refl w.heap.size w)
  have H : ((compact_NewNodeID.f a0_0 (Go.bits .xor .u64 a0_1 1)).bind fun bt202 => (some (bt202.1, bt202.2))) = some (r1, r2) := h
  clear h
  replace H := Option.bind_eq_some_iff.mp H
  obtain ⟨⟨t202, t203⟩, A20, H⟩ := H
  replace H : (some (t202, t203)) = some (r1, r2) := H
  have A2 := Aside0.mk A20
  clear A20
  simp only [Option.some.injEq, Prod.mk.injEq] at H
  obtain ⟨rfl, rfl⟩ := H
  go_enter Tryd.func40, Tryd.ntmps40
  go_wp2_with (first | ((with_reducible refine gate_dst (N := 1) rfl ?_); refine box_event ?hg (N := 1) ?hd (cs := #[.int .u64 a0_0, .int .u64 a0_1]) (t := 46) ?hr ?_; (case hd => rfl); (case hg => rfl); (case hr => first | (go_simp; done) | (go_simp; rfl)); intro gb200 hg w3 hbox hb; have n0_ := Aside0.mk (below_step (by repeat (first | (with_reducible first | exact HB.out | apply below_alloc | apply pw_below_drewN | apply below_drew1) | exact HB.out)) hb); have n1_ := Aside0.mk (hbox); have n2_ := Aside0.mk ((by rw [hg]; exact (below_size (by repeat (first | (with_reducible first | exact HB.out | apply below_alloc | apply pw_below_drewN | apply below_drew1) | exact HB.out))) : w.heap.size ≤ gb200)); have n3_ := Aside0.mk ((by rw [hg]; exact (below_size (by repeat (first | (with_reducible first | exact HB.out | apply below_alloc | apply pw_below_drewN | apply below_drew1) | exact HB.out))) : w.heap.size ≤ gb200)); clear HB; have HB := n0_; have BK200 := n1_; have GW200 := n2_; have GE200 := n3_; clear n0_ n1_ n2_ n3_; clear hb hbox hg) | ((with_reducible refine gate_dst (N := 2) rfl ?_); refine box_event ?hg (N := 2) ?hd (cs := #[.int .u64 0, .int .u64 0]) (t := 46) ?hr ?_; (case hd => rfl); (case hg => rfl); (case hr => first | (go_simp; done) | (go_simp; rfl)); intro gb201 hg w4 hbox hb; have n0_ := Aside0.mk (blk_below (g := gb200) (o := .cells #[.int .u64 a0_0, .int .u64 a0_1] 46 (0, 0)) (by (with_reducible repeat (first | refine blk_drewN ?_ _ | refine blk_drew ?_ | refine blk_alloc ?_ _)); exact BK200.out) hb); have n1_ := Aside0.mk (below_step (by repeat (first | (with_reducible first | exact HB.out | apply below_alloc | apply pw_below_drewN | apply below_drew1 | refine below_set ?_ GE200.out) | exact HB.out)) hb); have n2_ := Aside0.mk (hbox); have n3_ := Aside0.mk ((by rw [hg]; exact (below_size (by repeat (first | (with_reducible first | exact HB.out | apply below_alloc | apply pw_below_drewN | apply below_drew1 | refine below_set ?_ GE200.out) | exact HB.out))) : w.heap.size ≤ gb201)); have n4_ := Aside0.mk ((by rw [hg]; exact (below_size (by repeat (first | (with_reducible first | exact HB.out | apply below_alloc | apply pw_below_drewN | apply below_drew1 | refine below_set ?_ GE200.out) | exact HB.out))) : w.heap.size ≤ gb201)); have n5_ := Aside0.mk ((by rw [hg]; exact Nat.ne_of_lt (blk_lt (g := gb200) (o := .cells #[.int .u64 a0_0, .int .u64 a0_1] 46 (0, 0)) (by (with_reducible repeat (first | refine blk_drewN ?_ _ | refine blk_drew ?_ | refine blk_alloc ?_ _)); exact BK200.out)) : gb200 ≠ gb201)); have n6_ := Aside0.mk ((by rw [hg]; exact Nat.ne_of_gt (blk_lt (g := gb200) (o := .cells #[.int .u64 a0_0, .int .u64 a0_1] 46 (0, 0)) (by (with_reducible repeat (first | refine blk_drewN ?_ _ | refine blk_drew ?_ | refine blk_alloc ?_ _)); exact BK200.out)) : gb201 ≠ gb200)); clear BK200; clear HB; have BK200 := n0_; have HB := n1_; have BK201 := n2_; have GW201 := n3_; have GE201 := n4_; have NB200_201 := n5_; have NB201_200 := n6_; clear n0_ n1_ n2_ n3_ n4_ n5_ n6_; clear hb hbox hg; have hnb5 := NB200_201.out; have hnc5 := NB201_200.out; have hcz6_0 : w4.cell? ⟨gb200, 0, none⟩ = some (.int .u64 a0_0) := (blk_cell BK200.out 0).trans rfl; have hcz6_1 : w4.cell? ⟨gb200, 1, none⟩ = some (.int .u64 a0_1) := (blk_cell BK200.out 1).trans rfl; have hfz6_0 := blk_frozen BK200.out 0; have hfz6_1 := blk_frozen BK200.out 1) | ((with_reducible refine gate_callee (f := 28) rfl ?_); refine goesL_ (some 8) rfl rfl Tryd.func28 (by kernel_rfl) rfl #[.int .u64 a0_0, .int .u64 (Go.bits .xor .u64 a0_1 1)] rfl (by (try simp only [List.map_toArray, List.map_cons, List.map_nil]); first | done | rfl | (simp only [List.length_drop, List.length_take]; rfl)) ?_; (with_reducible refine (compact_NewNodeID.calls a0_0 (Go.bits .xor .u64 a0_1 1) t202 t203 _ A2.out).mono ?_); rintro e w7 ⟨rfl, hb⟩; refine ⟨_, rfl, ?_⟩; have n0_ := Aside0.mk (blk_below (g := gb200) (o := .cells #[.int .u64 a0_0, .int .u64 a0_1] 46 (0, 0)) (by (with_reducible repeat (first | refine blk_drewN ?_ _ | refine blk_drew ?_ | refine blk_alloc ?_ _)); exact BK200.out) hb); have n1_ := Aside0.mk (blk_below (g := gb201) (o := .cells #[.int .u64 0, .int .u64 0] 46 (0, 0)) (by (with_reducible repeat (first | refine blk_drewN ?_ _ | refine blk_drew ?_ | refine blk_alloc ?_ _)); exact BK201.out) hb); have n2_ := Aside0.mk (below_step (by repeat (first | (with_reducible first | exact HB.out | apply below_alloc | apply pw_below_drewN | apply below_drew1 | refine below_set ?_ GE200.out | refine below_set ?_ GE201.out) | exact HB.out)) hb); clear BK200; clear BK201; clear HB; have BK200 := n0_; have BK201 := n1_; have HB := n2_; clear n0_ n1_ n2_; (try clear hb); (try clear hb2); (try clear hk); (try clear hi); have hcz8_0 : w7.cell? ⟨gb201, 0, none⟩ = some (.int .u64 0) := (blk_cell BK201.out 0).trans rfl; have hcz8_1 : w7.cell? ⟨gb201, 1, none⟩ = some (.int .u64 0) := (blk_cell BK201.out 1).trans rfl; have hfz8_0 := blk_frozen BK201.out 0; have hfz8_1 := blk_frozen BK201.out 1))
  refine bodyPost_ret (results_cell_row rfl _ _ gb201 46 #[.int .u64 t202, .int .u64 t203] (0, 0) _ rfl (by (with_reducible repeat (first | refine blk_drewN ?_ _ | refine blk_drew ?_ | refine blk_alloc ?_ _)); refine blk_put (cs := #[.int .u64 t202, .int .u64 0]) ?_ 1 _ rfl; (with_reducible repeat (first | refine blk_drewN ?_ _ | refine blk_drew ?_ | refine blk_alloc ?_ _)); refine blk_put (cs := #[.int .u64 0, .int .u64 0]) ?_ 0 _ rfl; (with_reducible repeat (first | refine blk_drewN ?_ _ | refine blk_drew ?_ | refine blk_alloc ?_ _)); exact BK201.out) Tryd.underlying46 rfl (by kernel_rfl)) rfl ?_
  exact ⟨by first | rfl | (simp [errW_none, errW_some] <;> rfl) | (simp [*, errW_none, errW_some] <;> rfl), by repeat (first | (with_reducible first | exact HB.out | apply below_alloc | apply pw_below_drewN | apply below_drew1 | refine below_set ?_ GE200.out | refine below_set ?_ GE201.out) | exact HB.out)⟩

/-! ### proof_Nodes_skipFirst: function 34 -/
def proof_Nodes_skipFirst.f (l0_0 : List (S46)) (a0_1 : Int) (a0_2 : Int) (a0_3 : Int) (a0_4 : Int) : Option ((List (S46)) × Int × Int × Int × Int) := if 1 ≤ (l0_0.length : Int) then ((some (l0_0.drop (1 : Int).toNat : List (S46))).bind fun y206 => (if a0_1 < a0_2 then (some (y206, wrap64 (a0_1 - 1), wrap64 (a0_2 - 1), a0_3, a0_4)) else (some (y206, a0_1, a0_2, a0_3, a0_4)))) else (none)
set_option maxHeartbeats 8000000 in
set_option maxRecDepth 100000 in
theorem proof_Nodes_skipFirst.calls (P0_0_ : Nat → Prop) (u9000_ : Value) (l0_0 : List (S46)) (a0_1 : Int) (a0_2 : Int) (a0_3 : Int) (a0_4 : Int) (r1 : List (S46)) (r2 : Int) (r3 : Int) (r4 : Int) (r5 : Int) (w0 w : World) (hB : Below w0.heap.size w0 w) (ho0_0 : Kd.R k46 46 w w0.heap.size P0_0_ u9000_ l0_0) (h : proof_Nodes_skipFirst.f l0_0 a0_1 a0_2 a0_3 a0_4 = some (r1, r2, r3, r4, r5)) :
    Calls Tryd.prog 34 #[.agg #[u9000_, .int .i64 a0_1, .int .i64 a0_2, .int .u64 a0_3, .int .u64 a0_4]] w fun e w' => ∃ v0_ : Value, e = .returned (.agg #[v0_, .int .i64 r2, .int .i64 r3, .int .u64 r4, .int .u64 r5]) ∧ Kd.Q k46 46 w' w0.heap.size (fun k_ => (P0_0_ k_ ∨ w.heap.size ≤ k_)) v0_ r1 ∧ Below w0.heap.size w0 w' ∧ Kept w w' (fun k_ => P0_0_ k_) := by
  have hu51 := Tryd.underlying51
  have HO0_0 := Aside0.mk (show Kd.R k46 46 w w0.heap.size (fun k_ => (P0_0_ k_ ∨ w.heap.size ≤ k_)) u9000_ l0_0 from Kd.R_mono ho0_0 (fun k_ hk => (.inl hk)))
  have HK := Aside0.mk (Kept.refl w (fun k_ => P0_0_ k_))
  have HW0 := Aside0.mk hB.size
  have HB := Aside0.mk hB
  clear hB
  have H : (if 1 ≤ (l0_0.length : Int) then ((some (l0_0.drop (1 : Int).toNat : List (S46))).bind fun y206 => (if a0_1 < a0_2 then (some (y206, wrap64 (a0_1 - 1), wrap64 (a0_2 - 1), a0_3, a0_4)) else (some (y206, a0_1, a0_2, a0_3, a0_4)))) else (none)) = some (r1, r2, r3, r4, r5) := h
  clear h
  by_cases c2 : 1 ≤ (l0_0.length : Int)
  · rw [if_pos c2] at H
    have c2b0 := eq_true c2
    have c2b1 : decide (1 ≤ (l0_0.length : Int)) = true := decide_eq_true c2
    clear c2
    obtain ⟨y206, hy206⟩ : ∃ y_ : List (S46), y_ = (l0_0.drop (1 : Int).toNat) := ⟨_, rfl⟩
    replace H : (if a0_1 < a0_2 then (some (y206, wrap64 (a0_1 - 1), wrap64 (a0_2 - 1), a0_3, a0_4)) else (some (y206, a0_1, a0_2, a0_3, a0_4))) = some (r1, r2, r3, r4, r5) := by first | (rw [hy206]; with_reducible exact H) | (have H2_ := (Option.bind_some _ _).symm.trans H; rw [hy206]; with_reducible exact H2_) | (have H2_ := (Option.bind_some _ _).symm.trans H; with_reducible exact H2_) | with_reducible exact H | (rw [hy206]; exact H) | exact H
    have Ny206 := Aside0.mk hy206
    clear hy206
    by_cases c3 : a0_1 < a0_2
    · rw [if_pos c3] at H
      have c3b0 : decide (a0_1 < a0_2) = true := decide_eq_true c3
      clear c3
      simp only [Option.some.injEq, Prod.mk.injEq] at H
      obtain ⟨rfl, rfl, rfl, rfl, rfl⟩ := H
      obtain ⟨Ao4, co4, eo4⟩ := Kd.R_slice HO0_0.out
      subst eo4
      go_enter Tryd.func34, Tryd.ntmps34
      go_wp2_with (first | ((with_reducible refine gate_dst (N := 1) rfl ?_); refine box_event ?hg (N := 1) ?hd (cs := #[.slice Ao4 l0_0.length co4, .int .i64 a0_1, .int .i64 a0_2, .int .u64 a0_3, .int .u64 a0_4]) (t := 51) ?hr ?_; (case hd => rfl); (case hg => rfl); (case hr => first | (go_simp; done) | (go_simp; rfl)); intro gb204 hg w5 hbox hb; have n0_ := Aside0.mk (Kd.R_below (by (with_reducible repeat (first | apply Kd.R_alloc | apply Kd.R_drewN | apply Kd.R_drew)); exact HO0_0.out) hb); have n1_ := Aside0.mk (Kept.below (S := (fun k_ => P0_0_ k_)) (by repeat (first | (with_reducible first | exact HK.out | apply Kept.alloc | apply Kept.drewN | apply Kept.drew) | exact HK.out)) hb); have n2_ := Aside0.mk (below_step (by repeat (first | (with_reducible first | exact HB.out | apply below_alloc | apply pw_below_drewN | apply below_drew1) | exact HB.out)) hb); have n3_ := Aside0.mk (hbox); have n4_ := Aside0.mk ((by rw [hg]; exact (by first | exact HK.out.1 | exact (show Kept w _ (fun k_ => P0_0_ k_) from by repeat (first | (with_reducible first | exact HK.out | apply Kept.alloc | apply Kept.drewN | apply Kept.drew) | exact HK.out)).1) : w.heap.size ≤ gb204)); have n5_ := Aside0.mk ((by rw [hg]; exact (below_size (by repeat (first | (with_reducible first | exact HB.out | apply below_alloc | apply pw_below_drewN | apply below_drew1) | exact HB.out))) : w0.heap.size ≤ gb204)); clear HO0_0; clear HK; clear HB; have HO0_0 := n0_; have HK := n1_; have HB := n2_; have BK204 := n3_; have GW204 := n4_; have GE204 := n5_; clear n0_ n1_ n2_ n3_ n4_ n5_; clear hb hbox hg) | ((with_reducible refine gate_dst (N := 2) rfl ?_); refine box_event ?hg (N := 2) ?hd (cs := #[.slice none 0 0, .int .i64 0, .int .i64 0, .int .u64 0, .int .u64 0]) (t := 51) ?hr ?_; (case hd => rfl); (case hg => rfl); (case hr => first | (go_simp; done) | (go_simp; rfl)); intro gb205 hg w6 hbox hb; have n0_ := Aside0.mk (Kd.R_below (by (with_reducible repeat (first | apply Kd.R_alloc | apply Kd.R_drewN | apply Kd.R_drew)); exact HO0_0.out) hb); have n1_ := Aside0.mk (blk_below (g := gb204) (o := .cells #[.slice Ao4 l0_0.length co4, .int .i64 a0_1, .int .i64 a0_2, .int .u64 a0_3, .int .u64 a0_4] 51 (0, 0)) (by (with_reducible repeat (first | refine blk_drewN ?_ _ | refine blk_drew ?_ | refine blk_alloc ?_ _)); exact BK204.out) hb); have n2_ := Aside0.mk (Kept.below (S := (fun k_ => P0_0_ k_)) (by repeat (first | (with_reducible first | exact HK.out | apply Kept.alloc | apply Kept.drewN | apply Kept.drew | refine Kept.setCell ?_ (.inr GW204.out) _) | exact HK.out)) hb); have n3_ := Aside0.mk (below_step (by repeat (first | (with_reducible first | exact HB.out | apply below_alloc | apply pw_below_drewN | apply below_drew1 | refine below_set ?_ GE204.out) | exact HB.out)) hb); have n4_ := Aside0.mk (hbox); have n5_ := Aside0.mk ((by rw [hg]; exact (by first | exact HK.out.1 | exact (show Kept w _ (fun k_ => P0_0_ k_) from by repeat (first | (with_reducible first | exact HK.out | apply Kept.alloc | apply Kept.drewN | apply Kept.drew | refine Kept.setCell ?_ (.inr GW204.out) _) | exact HK.out)).1) : w.heap.size ≤ gb205)); have n6_ := Aside0.mk ((by rw [hg]; exact (below_size (by repeat (first | (with_reducible first | exact HB.out | apply below_alloc | apply pw_below_drewN | apply below_drew1 | refine below_set ?_ GE204.out) | exact HB.out))) : w0.heap.size ≤ gb205)); have n7_ := Aside0.mk ((by rw [hg]; exact Nat.ne_of_lt (blk_lt (g := gb204) (o := .cells #[.slice Ao4 l0_0.length co4, .int .i64 a0_1, .int .i64 a0_2, .int .u64 a0_3, .int .u64 a0_4] 51 (0, 0)) (by (with_reducible repeat (first | refine blk_drewN ?_ _ | refine blk_drew ?_ | refine blk_alloc ?_ _)); exact BK204.out)) : gb204 ≠ gb205)); have n8_ := Aside0.mk ((by rw [hg]; exact Nat.ne_of_gt (blk_lt (g := gb204) (o := .cells #[.slice Ao4 l0_0.length co4, .int .i64 a0_1, .int .i64 a0_2, .int .u64 a0_3, .int .u64 a0_4] 51 (0, 0)) (by (with_reducible repeat (first | refine blk_drewN ?_ _ | refine blk_drew ?_ | refine blk_alloc ?_ _)); exact BK204.out)) : gb205 ≠ gb204)); clear HO0_0; clear BK204; clear HK; clear HB; have HO0_0 := n0_; have BK204 := n1_; have HK := n2_; have HB := n3_; have BK205 := n4_; have GW205 := n5_; have GE205 := n6_; have NB204_205 := n7_; have NB205_204 := n8_; clear n0_ n1_ n2_ n3_ n4_ n5_ n6_ n7_ n8_; clear hb hbox hg; have hnb7 := NB204_205.out; have hnc7 := NB205_204.out; have hcz8_0 : w6.cell? ⟨gb204, 0, none⟩ = some (.slice Ao4 l0_0.length co4) := (blk_cell BK204.out 0).trans rfl; have hcz8_1 : w6.cell? ⟨gb204, 1, none⟩ = some (.int .i64 a0_1) := (blk_cell BK204.out 1).trans rfl; have hcz8_2 : w6.cell? ⟨gb204, 2, none⟩ = some (.int .i64 a0_2) := (blk_cell BK204.out 2).trans rfl; have hcz8_3 : w6.cell? ⟨gb204, 3, none⟩ = some (.int .u64 a0_3) := (blk_cell BK204.out 3).trans rfl; have hcz8_4 : w6.cell? ⟨gb204, 4, none⟩ = some (.int .u64 a0_4) := (blk_cell BK204.out 4).trans rfl; have hfz8_0 := blk_frozen BK204.out 0; have hfz8_1 := blk_frozen BK204.out 1; have hfz8_2 := blk_frozen BK204.out 2; have hfz8_3 := blk_frozen BK204.out 3; have hfz8_4 := blk_frozen BK204.out 4; have q9 : (1 : Int) ≤ ((l0_0.length : Int) : Int) := of_decide_eq_true (by first | (with_reducible assumption) | assumption); obtain ⟨i09, hi09, _, hsz9, _⟩ := info_parts info46; have hcut9 := cut_from (P := Tryd.prog) 45 46 .i64 Tryd.underlying45 hi09 2 hsz9 Ao4 l0_0.length co4 1 (by omega) q9; have hr9 := Kd.Q_drop (k := (1 : Int).toNat) (Kd.Q_of_R HO0_0.out) (by omega); obtain ⟨A9, hA9⟩ : ∃ A1, A1 = (if co4 = (1 : Int).toNat then Ao4 else (Ao4 : Option Addr).map (·.add ((1 : Int).toNat * 2))) := ⟨_, rfl⟩; obtain ⟨c9, hc9⟩ : ∃ c1, c1 = co4 - (1 : Int).toNat := ⟨_, rfl⟩; have hy9 : y206.length = l0_0.length - (1 : Int).toNat := (by rw [Ny206.out, List.length_drop]); rw [← Ny206.out] at hr9; rw [← hy9, ← hA9, ← hc9] at hcut9; replace hr9 : Kd.Q k46 46 w6 w0.heap.size (fun k_ => (P0_0_ k_ ∨ w.heap.size ≤ k_)) (.slice A9 y206.length c9) y206 := (by rw [hA9, hc9, hy9]; exact hr9); have HE9 : Aside0 ((Value.slice A9 y206.length c9).ownBlock = (.slice Ao4 l0_0.length co4 : Value).ownBlock) := ⟨by rw [hA9]; split <;> (cases (Ao4 : Option Addr) <;> rfl)⟩; clear hy9 hi09 hsz9 HO0_0 hA9 hc9; have HO208 := Aside0.mk hr9; clear hr9; replace q9 := eq_true q9; have hcz10_0 : w6.cell? ⟨gb205, 0, none⟩ = some (.slice none 0 0) := (blk_cell BK205.out 0).trans rfl; have hcz10_1 : w6.cell? ⟨gb205, 1, none⟩ = some (.int .i64 0) := (blk_cell BK205.out 1).trans rfl; have hcz10_2 : w6.cell? ⟨gb205, 2, none⟩ = some (.int .i64 0) := (blk_cell BK205.out 2).trans rfl; have hcz10_3 : w6.cell? ⟨gb205, 3, none⟩ = some (.int .u64 0) := (blk_cell BK205.out 3).trans rfl; have hcz10_4 : w6.cell? ⟨gb205, 4, none⟩ = some (.int .u64 0) := (blk_cell BK205.out 4).trans rfl; have hfz10_0 := blk_frozen BK205.out 0; have hfz10_1 := blk_frozen BK205.out 1; have hfz10_2 := blk_frozen BK205.out 2; have hfz10_3 := blk_frozen BK205.out 3; have hfz10_4 := blk_frozen BK205.out 4))
      refine bodyPost_ret (results_cell_row rfl _ _ gb205 51 #[.slice A9 y206.length c9, .int .i64 (wrap64 (a0_1 - 1)), .int .i64 (wrap64 (a0_2 - 1)), .int .u64 a0_3, .int .u64 a0_4] (0, 0) _ rfl (by (with_reducible repeat (first | refine blk_drewN ?_ _ | refine blk_drew ?_ | refine blk_alloc ?_ _)); refine blk_put (cs := #[.slice A9 y206.length c9, .int .i64 (wrap64 (a0_1 - 1)), .int .i64 (wrap64 (a0_2 - 1)), .int .u64 a0_3, .int .u64 0]) ?_ 4 _ rfl; (with_reducible repeat (first | refine blk_drewN ?_ _ | refine blk_drew ?_ | refine blk_alloc ?_ _)); refine blk_put (cs := #[.slice A9 y206.length c9, .int .i64 (wrap64 (a0_1 - 1)), .int .i64 (wrap64 (a0_2 - 1)), .int .u64 0, .int .u64 0]) ?_ 3 _ rfl; (with_reducible repeat (first | refine blk_drewN ?_ _ | refine blk_drew ?_ | refine blk_alloc ?_ _)); refine blk_put (cs := #[.slice A9 y206.length c9, .int .i64 (wrap64 (a0_1 - 1)), .int .i64 0, .int .u64 0, .int .u64 0]) ?_ 2 _ rfl; (with_reducible repeat (first | refine blk_drewN ?_ _ | refine blk_drew ?_ | refine blk_alloc ?_ _)); refine blk_put (cs := #[.slice A9 y206.length c9, .int .i64 0, .int .i64 0, .int .u64 0, .int .u64 0]) ?_ 1 _ rfl; (with_reducible repeat (first | refine blk_drewN ?_ _ | refine blk_drew ?_ | refine blk_alloc ?_ _)); refine blk_put (cs := #[.slice none 0 0, .int .i64 0, .int .i64 0, .int .u64 0, .int .u64 0]) ?_ 0 _ rfl; (with_reducible repeat (first | refine blk_drewN ?_ _ | refine blk_drew ?_ | refine blk_alloc ?_ _)); refine blk_far ?_ NB205_204.out _; (with_reducible repeat (first | refine blk_drewN ?_ _ | refine blk_drew ?_ | refine blk_alloc ?_ _)); refine blk_far ?_ NB205_204.out _; (with_reducible repeat (first | refine blk_drewN ?_ _ | refine blk_drew ?_ | refine blk_alloc ?_ _)); refine blk_far ?_ NB205_204.out _; (with_reducible repeat (first | refine blk_drewN ?_ _ | refine blk_drew ?_ | refine blk_alloc ?_ _)); exact BK205.out) Tryd.underlying51 rfl (by kernel_rfl)) rfl ?_
      exact ⟨_, by first | rfl | (simp [errW_none, errW_some] <;> rfl) | (simp [*, errW_none, errW_some] <;> rfl), by (with_reducible repeat (first | apply Kd.Q_alloc | apply Kd.Q_drewN | apply Kd.Q_drew)); exact Kd.Q_mono (Kd.Q_far (p := ⟨gb205, 4, none⟩) (Kd.Q_far (p := ⟨gb205, 3, none⟩) (Kd.Q_far (p := ⟨gb205, 2, none⟩) (Kd.Q_far (p := ⟨gb205, 1, none⟩) (Kd.Q_far (p := ⟨gb205, 0, none⟩) (Kd.Q_far (p := ⟨gb204, 2, none⟩) (Kd.Q_far (p := ⟨gb204, 1, none⟩) (Kd.Q_far (p := ⟨gb204, 0, none⟩) (Kd.Q_types (Kd.Q_types HO208.out BK204.out (by decide)) BK205.out (by decide)) (fun _ hk => hk.1.2) (.slice A9 y206.length c9)) (fun _ hk => hk.1.2) (.int .i64 (wrap64 (a0_1 - 1)))) (fun _ hk => hk.1.2) (.int .i64 (wrap64 (a0_2 - 1)))) (fun _ hk => hk.2) (.slice A9 y206.length c9)) (fun _ hk => hk.2) (.int .i64 (wrap64 (a0_1 - 1)))) (fun _ hk => hk.2) (.int .i64 (wrap64 (a0_2 - 1)))) (fun _ hk => hk.2) (.int .u64 a0_3)) (fun _ hk => hk.2) (.int .u64 a0_4)) (fun _ hk => hk.1.1), by repeat (first | (with_reducible first | exact HB.out | apply below_alloc | apply pw_below_drewN | apply below_drew1 | refine below_set ?_ GE204.out | refine below_set ?_ GE205.out) | exact HB.out), by repeat (first | (with_reducible first | exact HK.out | apply Kept.alloc | apply Kept.drewN | apply Kept.drew | refine Kept.setCell ?_ (.inr GW204.out) _ | refine Kept.setCell ?_ (.inr GW205.out) _) | exact HK.out)⟩
    · rw [if_neg c3] at H
      have c3b0 : decide (a0_1 < a0_2) = false := decide_eq_false c3
      clear c3
      simp only [Option.some.injEq, Prod.mk.injEq] at H
      obtain ⟨rfl, rfl, rfl, rfl, rfl⟩ := H
      obtain ⟨Ao11, co11, eo11⟩ := Kd.R_slice HO0_0.out
      subst eo11
      go_enter Tryd.func34, Tryd.ntmps34
      go_wp2_with (first | ((with_reducible refine gate_dst (N := 1) rfl ?_); refine box_event ?hg (N := 1) ?hd (cs := #[.slice Ao11 l0_0.length co11, .int .i64 a0_1, .int .i64 a0_2, .int .u64 a0_3, .int .u64 a0_4]) (t := 51) ?hr ?_; (case hd => rfl); (case hg => rfl); (case hr => first | (go_simp; done) | (go_simp; rfl)); intro gb204 hg w12 hbox hb; have n0_ := Aside0.mk (Kd.R_below (by (with_reducible repeat (first | apply Kd.R_alloc | apply Kd.R_drewN | apply Kd.R_drew)); exact HO0_0.out) hb); have n1_ := Aside0.mk (Kept.below (S := (fun k_ => P0_0_ k_)) (by repeat (first | (with_reducible first | exact HK.out | apply Kept.alloc | apply Kept.drewN | apply Kept.drew) | exact HK.out)) hb); have n2_ := Aside0.mk (below_step (by repeat (first | (with_reducible first | exact HB.out | apply below_alloc | apply pw_below_drewN | apply below_drew1) | exact HB.out)) hb); have n3_ := Aside0.mk (hbox); have n4_ := Aside0.mk ((by rw [hg]; exact (by first | exact HK.out.1 | exact (show Kept w _ (fun k_ => P0_0_ k_) from by repeat (first | (with_reducible first | exact HK.out | apply Kept.alloc | apply Kept.drewN | apply Kept.drew) | exact HK.out)).1) : w.heap.size ≤ gb204)); have n5_ := Aside0.mk ((by rw [hg]; exact (below_size (by repeat (first | (with_reducible first | exact HB.out | apply below_alloc | apply pw_below_drewN | apply below_drew1) | exact HB.out))) : w0.heap.size ≤ gb204)); clear HO0_0; clear HK; clear HB; have HO0_0 := n0_; have HK := n1_; have HB := n2_; have BK204 := n3_; have GW204 := n4_; have GE204 := n5_; clear n0_ n1_ n2_ n3_ n4_ n5_; clear hb hbox hg) | ((with_reducible refine gate_dst (N := 2) rfl ?_); refine box_event ?hg (N := 2) ?hd (cs := #[.slice none 0 0, .int .i64 0, .int .i64 0, .int .u64 0, .int .u64 0]) (t := 51) ?hr ?_; (case hd => rfl); (case hg => rfl); (case hr => first | (go_simp; done) | (go_simp; rfl)); intro gb205 hg w13 hbox hb; have n0_ := Aside0.mk (Kd.R_below (by (with_reducible repeat (first | apply Kd.R_alloc | apply Kd.R_drewN | apply Kd.R_drew)); exact HO0_0.out) hb); have n1_ := Aside0.mk (blk_below (g := gb204) (o := .cells #[.slice Ao11 l0_0.length co11, .int .i64 a0_1, .int .i64 a0_2, .int .u64 a0_3, .int .u64 a0_4] 51 (0, 0)) (by (with_reducible repeat (first | refine blk_drewN ?_ _ | refine blk_drew ?_ | refine blk_alloc ?_ _)); exact BK204.out) hb); have n2_ := Aside0.mk (Kept.below (S := (fun k_ => P0_0_ k_)) (by repeat (first | (with_reducible first | exact HK.out | apply Kept.alloc | apply Kept.drewN | apply Kept.drew | refine Kept.setCell ?_ (.inr GW204.out) _) | exact HK.out)) hb); have n3_ := Aside0.mk (below_step (by repeat (first | (with_reducible first | exact HB.out | apply below_alloc | apply pw_below_drewN | apply below_drew1 | refine below_set ?_ GE204.out) | exact HB.out)) hb); have n4_ := Aside0.mk (hbox); have n5_ := Aside0.mk ((by rw [hg]; exact (by first | exact HK.out.1 | exact (show Kept w _ (fun k_ => P0_0_ k_) from by repeat (first | (with_reducible first | exact HK.out | apply Kept.alloc | apply Kept.drewN | apply Kept.drew | refine Kept.setCell ?_ (.inr GW204.out) _) | exact HK.out)).1) : w.heap.size ≤ gb205)); have n6_ := Aside0.mk ((by rw [hg]; exact (below_size (by repeat (first | (with_reducible first | exact HB.out | apply below_alloc | apply pw_below_drewN | apply below_drew1 | refine below_set ?_ GE204.out) | exact HB.out))) : w0.heap.size ≤ gb205)); have n7_ := Aside0.mk ((by rw [hg]; exact Nat.ne_of_lt (blk_lt (g := gb204) (o := .cells #[.slice Ao11 l0_0.length co11, .int .i64 a0_1, .int .i64 a0_2, .int .u64 a0_3, .int .u64 a0_4] 51 (0, 0)) (by (with_reducible repeat (first | refine blk_drewN ?_ _ | refine blk_drew ?_ | refine blk_alloc ?_ _)); exact BK204.out)) : gb204 ≠ gb205)); have n8_ := Aside0.mk ((by rw [hg]; exact Nat.ne_of_gt (blk_lt (g := gb204) (o := .cells #[.slice Ao11 l0_0.length co11, .int .i64 a0_1, .int .i64 a0_2, .int .u64 a0_3, .int .u64 a0_4] 51 (0, 0)) (by (with_reducible repeat (first | refine blk_drewN ?_ _ | refine blk_drew ?_ | refine blk_alloc ?_ _)); exact BK204.out)) : gb205 ≠ gb204)); clear HO0_0; clear BK204; clear HK; clear HB; have HO0_0 := n0_; have BK204 := n1_; have HK := n2_; have HB := n3_; have BK205 := n4_; have GW205 := n5_; have GE205 := n6_; have NB204_205 := n7_; have NB205_204 := n8_; clear n0_ n1_ n2_ n3_ n4_ n5_ n6_ n7_ n8_; clear hb hbox hg; have hnb14 := NB204_205.out; have hnc14 := NB205_204.out; have hcz15_0 : w13.cell? ⟨gb204, 0, none⟩ = some (.slice Ao11 l0_0.length co11) := (blk_cell BK204.out 0).trans rfl; have hcz15_1 : w13.cell? ⟨gb204, 1, none⟩ = some (.int .i64 a0_1) := (blk_cell BK204.out 1).trans rfl; have hcz15_2 : w13.cell? ⟨gb204, 2, none⟩ = some (.int .i64 a0_2) := (blk_cell BK204.out 2).trans rfl; have hcz15_3 : w13.cell? ⟨gb204, 3, none⟩ = some (.int .u64 a0_3) := (blk_cell BK204.out 3).trans rfl; have hcz15_4 : w13.cell? ⟨gb204, 4, none⟩ = some (.int .u64 a0_4) := (blk_cell BK204.out 4).trans rfl; have hfz15_0 := blk_frozen BK204.out 0; have hfz15_1 := blk_frozen BK204.out 1; have hfz15_2 := blk_frozen BK204.out 2; have hfz15_3 := blk_frozen BK204.out 3; have hfz15_4 := blk_frozen BK204.out 4; have q16 : (1 : Int) ≤ ((l0_0.length : Int) : Int) := of_decide_eq_true (by first | (with_reducible assumption) | assumption); obtain ⟨i016, hi016, _, hsz16, _⟩ := info_parts info46; have hcut16 := cut_from (P := Tryd.prog) 45 46 .i64 Tryd.underlying45 hi016 2 hsz16 Ao11 l0_0.length co11 1 (by omega) q16; have hr16 := Kd.Q_drop (k := (1 : Int).toNat) (Kd.Q_of_R HO0_0.out) (by omega); obtain ⟨A16, hA16⟩ : ∃ A1, A1 = (if co11 = (1 : Int).toNat then Ao11 else (Ao11 : Option Addr).map (·.add ((1 : Int).toNat * 2))) := ⟨_, rfl⟩; obtain ⟨c16, hc16⟩ : ∃ c1, c1 = co11 - (1 : Int).toNat := ⟨_, rfl⟩; have hy16 : y206.length = l0_0.length - (1 : Int).toNat := (by rw [Ny206.out, List.length_drop]); rw [← Ny206.out] at hr16; rw [← hy16, ← hA16, ← hc16] at hcut16; replace hr16 : Kd.Q k46 46 w13 w0.heap.size (fun k_ => (P0_0_ k_ ∨ w.heap.size ≤ k_)) (.slice A16 y206.length c16) y206 := (by rw [hA16, hc16, hy16]; exact hr16); have HE16 : Aside0 ((Value.slice A16 y206.length c16).ownBlock = (.slice Ao11 l0_0.length co11 : Value).ownBlock) := ⟨by rw [hA16]; split <;> (cases (Ao11 : Option Addr) <;> rfl)⟩; clear hy16 hi016 hsz16 HO0_0 hA16 hc16; have HO208 := Aside0.mk hr16; clear hr16; replace q16 := eq_true q16; have hcz17_0 : w13.cell? ⟨gb205, 0, none⟩ = some (.slice none 0 0) := (blk_cell BK205.out 0).trans rfl; have hcz17_1 : w13.cell? ⟨gb205, 1, none⟩ = some (.int .i64 0) := (blk_cell BK205.out 1).trans rfl; have hcz17_2 : w13.cell? ⟨gb205, 2, none⟩ = some (.int .i64 0) := (blk_cell BK205.out 2).trans rfl; have hcz17_3 : w13.cell? ⟨gb205, 3, none⟩ = some (.int .u64 0) := (blk_cell BK205.out 3).trans rfl; have hcz17_4 : w13.cell? ⟨gb205, 4, none⟩ = some (.int .u64 0) := (blk_cell BK205.out 4).trans rfl; have hfz17_0 := blk_frozen BK205.out 0; have hfz17_1 := blk_frozen BK205.out 1; have hfz17_2 := blk_frozen BK205.out 2; have hfz17_3 := blk_frozen BK205.out 3; have hfz17_4 := blk_frozen BK205.out 4))
      refine bodyPost_ret (results_cell_row rfl _ _ gb205 51 #[.slice A16 y206.length c16, .int .i64 a0_1, .int .i64 a0_2, .int .u64 a0_3, .int .u64 a0_4] (0, 0) _ rfl (by (with_reducible repeat (first | refine blk_drewN ?_ _ | refine blk_drew ?_ | refine blk_alloc ?_ _)); refine blk_put (cs := #[.slice A16 y206.length c16, .int .i64 a0_1, .int .i64 a0_2, .int .u64 a0_3, .int .u64 0]) ?_ 4 _ rfl; (with_reducible repeat (first | refine blk_drewN ?_ _ | refine blk_drew ?_ | refine blk_alloc ?_ _)); refine blk_put (cs := #[.slice A16 y206.length c16, .int .i64 a0_1, .int .i64 a0_2, .int .u64 0, .int .u64 0]) ?_ 3 _ rfl; (with_reducible repeat (first | refine blk_drewN ?_ _ | refine blk_drew ?_ | refine blk_alloc ?_ _)); refine blk_put (cs := #[.slice A16 y206.length c16, .int .i64 a0_1, .int .i64 0, .int .u64 0, .int .u64 0]) ?_ 2 _ rfl; (with_reducible repeat (first | refine blk_drewN ?_ _ | refine blk_drew ?_ | refine blk_alloc ?_ _)); refine blk_put (cs := #[.slice A16 y206.length c16, .int .i64 0, .int .i64 0, .int .u64 0, .int .u64 0]) ?_ 1 _ rfl; (with_reducible repeat (first | refine blk_drewN ?_ _ | refine blk_drew ?_ | refine blk_alloc ?_ _)); refine blk_put (cs := #[.slice none 0 0, .int .i64 0, .int .i64 0, .int .u64 0, .int .u64 0]) ?_ 0 _ rfl; (with_reducible repeat (first | refine blk_drewN ?_ _ | refine blk_drew ?_ | refine blk_alloc ?_ _)); refine blk_far ?_ NB205_204.out _; (with_reducible repeat (first | refine blk_drewN ?_ _ | refine blk_drew ?_ | refine blk_alloc ?_ _)); exact BK205.out) Tryd.underlying51 rfl (by kernel_rfl)) rfl ?_
      exact ⟨_, by first | rfl | (simp [errW_none, errW_some] <;> rfl) | (simp [*, errW_none, errW_some] <;> rfl), by (with_reducible repeat (first | apply Kd.Q_alloc | apply Kd.Q_drewN | apply Kd.Q_drew)); exact Kd.Q_mono (Kd.Q_far (p := ⟨gb205, 4, none⟩) (Kd.Q_far (p := ⟨gb205, 3, none⟩) (Kd.Q_far (p := ⟨gb205, 2, none⟩) (Kd.Q_far (p := ⟨gb205, 1, none⟩) (Kd.Q_far (p := ⟨gb205, 0, none⟩) (Kd.Q_far (p := ⟨gb204, 0, none⟩) (Kd.Q_types (Kd.Q_types HO208.out BK204.out (by decide)) BK205.out (by decide)) (fun _ hk => hk.1.2) (.slice A16 y206.length c16)) (fun _ hk => hk.2) (.slice A16 y206.length c16)) (fun _ hk => hk.2) (.int .i64 a0_1)) (fun _ hk => hk.2) (.int .i64 a0_2)) (fun _ hk => hk.2) (.int .u64 a0_3)) (fun _ hk => hk.2) (.int .u64 a0_4)) (fun _ hk => hk.1.1), by repeat (first | (with_reducible first | exact HB.out | apply below_alloc | apply pw_below_drewN | apply below_drew1 | refine below_set ?_ GE204.out | refine below_set ?_ GE205.out) | exact HB.out), by repeat (first | (with_reducible first | exact HK.out | apply Kept.alloc | apply Kept.drewN | apply Kept.drew | refine Kept.setCell ?_ (.inr GW204.out) _ | refine Kept.setCell ?_ (.inr GW205.out) _) | exact HK.out)⟩
  · rw [if_neg c2] at H
    exact absurd H (by simp)

/-! ### proof_Nodes_Ephem: function 35 -/
def proof_Nodes_Ephem.f (l0_0 : List (S46)) (a0_1 : Int) (a0_2 : Int) (a0_3 : Int) (a0_4 : Int) : Option (Int × Int × Int × Int) := some (a0_3, a0_4, a0_1, a0_2)
def proof_Nodes_Ephem.T1 : Bool × List (List Nat × List Nat) := (true, [([], []), ([0], [0]), ([], []), ([2], [2]), ([], []), ([4], [4]), ([1, 0, 1], [1]), ([3, 6, 0, 1, 2, 3, 6], [3]), ([5, 7, 0, 1, 2, 3, 4, 5, 6, 7], [5])])
def proof_Nodes_Ephem.B1 : List Nat := [0, 1, 0, 4, 0, 16, 3, 79, 255]
theorem proof_Nodes_Ephem.tab1 : rtab .any (opsOf Tryd.f35 1) = proof_Nodes_Ephem.T1 := by kernel_rfl
theorem proof_Nodes_Ephem.bits1 : waitsOk proof_Nodes_Ephem.T1.2 proof_Nodes_Ephem.B1 = true := by kernel_rfl
set_option maxHeartbeats 8000000 in
set_option maxRecDepth 100000 in
theorem proof_Nodes_Ephem.calls (A0_0 : Option Addr) (c0_0 : Nat) (l0_0 : List (S46)) (a0_1 : Int) (a0_2 : Int) (a0_3 : Int) (a0_4 : Int) (r1 : Int) (r2 : Int) (r3 : Int) (r4 : Int) (w : World) (hr0_0 : Kd.C k46 w A0_0 l0_0.length l0_0) (hc0_0 : l0_0.length ≤ c0_0) (h : proof_Nodes_Ephem.f l0_0 a0_1 a0_2 a0_3 a0_4 = some (r1, r2, r3, r4)) :
    Calls Tryd.prog 35 #[.agg #[.slice A0_0 l0_0.length c0_0, .int .i64 a0_1, .int .i64 a0_2, .int .u64 a0_3, .int .u64 a0_4]] w fun e w' => e = .returned (.tuple #[.agg #[.int .u64 r1, .int .u64 r2], .int .i64 r3, .int .i64 r4]) ∧ Below w.heap.size w w' := by
  have hu51 := Tryd.underlying51
  have hu46 := Tryd.underlying46
  have HR0_0 := Aside0.mk hr0_0
  have HC0_0 := Aside0.mk hc0_0
  clear hr0_0 hc0_0
  have HB := Aside0.mk (Below.refl w.heap.size w)
  have H : (some (a0_3, a0_4, a0_1, a0_2)) = some (r1, r2, r3, r4) := h
  clear h
  simp only [Option.some.injEq, Prod.mk.injEq] at H
  obtain ⟨rfl, rfl, rfl, rfl⟩ := H
  go_enter Tryd.func35, Tryd.ntmps35
  try go_wp2_with (first | ((with_reducible refine gate_dst (N := 1) rfl ?_); refine box_event ?hg (N := 1) ?hd (cs := #[.slice A0_0 l0_0.length c0_0, .int .i64 a0_1, .int .i64 a0_2, .int .u64 a0_3, .int .u64 a0_4]) (t := 51) ?hr ?_; (case hd => rfl); (case hg => rfl); (case hr => first | (go_simp; done) | (go_simp; rfl)); intro gb209 hg w2 hbox hb; have n0_ := Aside0.mk (below_step (by repeat (first | (with_reducible first | exact HB.out | apply below_alloc | apply pw_below_drewN | apply below_drew1) | exact HB.out)) hb); have n1_ := Aside0.mk (hbox); have n2_ := Aside0.mk ((by rw [hg]; exact (below_size (by repeat (first | (with_reducible first | exact HB.out | apply below_alloc | apply pw_below_drewN | apply below_drew1) | exact HB.out))) : w.heap.size ≤ gb209)); have n3_ := Aside0.mk ((by rw [hg]; exact (below_size (by repeat (first | (with_reducible first | exact HB.out | apply below_alloc | apply pw_below_drewN | apply below_drew1) | exact HB.out))) : w.heap.size ≤ gb209)); clear HB; have HB := n0_; have BK209 := n1_; have GW209 := n2_; have GE209 := n3_; clear n0_ n1_ n2_ n3_; clear hb hbox hg) | ((with_reducible refine gate_dst (N := 2) rfl ?_); refine box_event ?hg (N := 2) ?hd (cs := #[.int .u64 0, .int .u64 0]) (t := 46) ?hr ?_; (case hd => rfl); (case hg => rfl); (case hr => first | (go_simp; done) | (go_simp; rfl)); intro gb210 hg w3 hbox hb; have n0_ := Aside0.mk (blk_below (g := gb209) (o := .cells #[.slice A0_0 l0_0.length c0_0, .int .i64 a0_1, .int .i64 a0_2, .int .u64 a0_3, .int .u64 a0_4] 51 (0, 0)) (by (with_reducible repeat (first | refine blk_drewN ?_ _ | refine blk_drew ?_ | refine blk_alloc ?_ _)); exact BK209.out) hb); have n1_ := Aside0.mk (below_step (by repeat (first | (with_reducible first | exact HB.out | apply below_alloc | apply pw_below_drewN | apply below_drew1 | refine below_set ?_ GE209.out) | exact HB.out)) hb); have n2_ := Aside0.mk (hbox); have n3_ := Aside0.mk ((by rw [hg]; exact (below_size (by repeat (first | (with_reducible first | exact HB.out | apply below_alloc | apply pw_below_drewN | apply below_drew1 | refine below_set ?_ GE209.out) | exact HB.out))) : w.heap.size ≤ gb210)); have n4_ := Aside0.mk ((by rw [hg]; exact (below_size (by repeat (first | (with_reducible first | exact HB.out | apply below_alloc | apply pw_below_drewN | apply below_drew1 | refine below_set ?_ GE209.out) | exact HB.out))) : w.heap.size ≤ gb210)); have n5_ := Aside0.mk ((by rw [hg]; exact Nat.ne_of_lt (blk_lt (g := gb209) (o := .cells #[.slice A0_0 l0_0.length c0_0, .int .i64 a0_1, .int .i64 a0_2, .int .u64 a0_3, .int .u64 a0_4] 51 (0, 0)) (by (with_reducible repeat (first | refine blk_drewN ?_ _ | refine blk_drew ?_ | refine blk_alloc ?_ _)); exact BK209.out)) : gb209 ≠ gb210)); have n6_ := Aside0.mk ((by rw [hg]; exact Nat.ne_of_gt (blk_lt (g := gb209) (o := .cells #[.slice A0_0 l0_0.length c0_0, .int .i64 a0_1, .int .i64 a0_2, .int .u64 a0_3, .int .u64 a0_4] 51 (0, 0)) (by (with_reducible repeat (first | refine blk_drewN ?_ _ | refine blk_drew ?_ | refine blk_alloc ?_ _)); exact BK209.out)) : gb210 ≠ gb209)); clear BK209; clear HB; have BK209 := n0_; have HB := n1_; have BK210 := n2_; have GW210 := n3_; have GE210 := n4_; have NB209_210 := n5_; have NB210_209 := n6_; clear n0_ n1_ n2_ n3_ n4_ n5_ n6_; clear hb hbox hg))
  (try (rw [drewN_self w3]; generalize hq_ : World.drewN w3 _ = w3; have n0_ : Aside0 (w3.heap[gb209]? = some (.cells #[.slice A0_0 l0_0.length c0_0, .int .i64 a0_1, .int .i64 a0_2, .int .u64 a0_3, .int .u64 a0_4] 51 (0, 0))) := ⟨by rw [← hq_]; exact (by (with_reducible repeat (first | refine blk_drewN ?_ _ | refine blk_drew ?_ | refine blk_alloc ?_ _)); exact BK209.out)⟩; have n1_ : Aside0 (w3.heap[gb210]? = some (.cells #[.int .u64 0, .int .u64 0] 46 (0, 0))) := ⟨by rw [← hq_]; exact (by (with_reducible repeat (first | refine blk_drewN ?_ _ | refine blk_drew ?_ | refine blk_alloc ?_ _)); exact BK210.out)⟩; have n2_ : Aside0 (Below w.heap.size w w3) := ⟨by rw [← hq_]; exact (by repeat (first | (with_reducible first | exact HB.out | apply below_alloc | apply pw_below_drewN | apply below_drew1 | refine below_set ?_ GE209.out | refine below_set ?_ GE210.out) | exact HB.out))⟩; clear BK209 BK210 HB hq_; have BK209 := n0_; have BK210 := n1_; have HB := n2_; clear n0_ n1_ n2_))
  have n0_ := Aside0.mk (blk_drew BK209.out)
  have n1_ := Aside0.mk (blk_drew BK210.out)
  have n2_ := Aside0.mk (below_drew1 HB.out)
  clear BK209
  clear BK210
  clear HB
  have BK209 := n0_
  have BK210 := n1_
  have HB := n2_
  clear n0_ n1_ n2_
  refine start_ (n := 9) (S := fun w' => w'.cell? ⟨gb209, 0, none⟩ = some (.slice A0_0 l0_0.length c0_0) ∧ w'.cell? ⟨gb209, 1, none⟩ = some (.int .i64 a0_1) ∧ w'.cell? ⟨gb209, 2, none⟩ = some (.int .i64 a0_2) ∧ w'.cell? ⟨gb209, 3, none⟩ = some (.int .u64 a0_3) ∧ w'.cell? ⟨gb209, 4, none⟩ = some (.int .u64 a0_4)) (ds := []) #[false, false, false, false, false, false, false, false, false] (by kernel_rfl) rfl rfl ⟨(blk_cell BK209.out 0).trans rfl, (blk_cell BK209.out 1).trans rfl, (blk_cell BK209.out 2).trans rfl, (blk_cell BK209.out 3).trans rfl, (blk_cell BK209.out 4).trans rfl⟩ (fun hHeld => ?_); refine with_tabW proof_Nodes_Ephem.tab1 proof_Nodes_Ephem.bits1 (fun HT_ HW_ => ?_)
  generalize w3.drew = w4 at BK209 BK210 HB hHeld ⊢
  refine pure_ (i := 0) (N := some 5) (v := ?_) (a' := ?_) #[true, false, false, false, false, false, false, false, false] rfl rfl (any_of HT_.out (by kernel_rfl)) (fun _ _ _ h => h) (Or.inl ⟨by rfl, ?_⟩) ?_ ?_
  rotate_left
  · intro w'
    go_simp
    with_reducible rfl
  rotate_left
  · simp only [Act.put, List.setIfInBounds_toArray, List.set_cons_zero, List.set_cons_succ, i64_w, i32_w]
    rfl
  refine pure_ (i := 2) (N := some 7) (v := ?_) (a' := ?_) #[true, false, true, false, false, false, false, false, false] rfl rfl (any_of HT_.out (by kernel_rfl)) (fun _ _ _ h => h) (Or.inl ⟨by rfl, ?_⟩) ?_ ?_
  rotate_left
  · intro w'
    go_simp
    with_reducible rfl
  rotate_left
  · simp only [Act.put, List.setIfInBounds_toArray, List.set_cons_zero, List.set_cons_succ, i64_w, i32_w]
    rfl
  refine pure_ (i := 4) (N := some 9) (v := ?_) (a' := ?_) #[true, false, true, false, true, false, false, false, false] rfl rfl (any_of HT_.out (by kernel_rfl)) (fun _ _ _ h => h) (Or.inl ⟨by rfl, ?_⟩) ?_ ?_
  rotate_left
  · intro w'
    go_simp
    with_reducible rfl
  rotate_left
  · simp only [Act.put, List.setIfInBounds_toArray, List.set_cons_zero, List.set_cons_succ, i64_w, i32_w]
    rfl
  refine take_ (i := 1) (N := some 6) (v := ?_) (a' := ?_) #[true, true, true, false, true, false, false, false, false] rfl rfl (take_ofW HT_.out HW_.out (by kernel_rfl)) (fun _ _ _ h => h) (Or.inl ⟨by rfl, ?_⟩) hHeld ?_ ?_
  rotate_left
  · rintro w' ⟨s0, s1, s2, s3, s4⟩
    go_simp
    with_reducible rfl
  rotate_left
  · simp only [Act.put, List.setIfInBounds_toArray, List.set_cons_zero, List.set_cons_succ, i64_w, i32_w]
    rfl
  refine take_ (i := 3) (N := some 8) (v := ?_) (a' := ?_) #[true, true, true, true, true, false, false, false, false] rfl rfl (take_ofW HT_.out HW_.out (by kernel_rfl)) (fun _ _ _ h => h) (Or.inl ⟨by rfl, ?_⟩) hHeld ?_ ?_
  rotate_left
  · rintro w' ⟨s0, s1, s2, s3, s4⟩
    go_simp
    with_reducible rfl
  rotate_left
  · simp only [Act.put, List.setIfInBounds_toArray, List.set_cons_zero, List.set_cons_succ, i64_w, i32_w]
    rfl
  refine take_ (i := 5) (N := some 10) (v := ?_) (a' := ?_) #[true, true, true, true, true, true, false, false, false] rfl rfl (take_ofW HT_.out HW_.out (by kernel_rfl)) (fun _ _ _ h => h) (Or.inl ⟨by rfl, ?_⟩) hHeld ?_ ?_
  rotate_left
  · rintro w' ⟨s0, s1, s2, s3, s4⟩
    go_simp
    with_reducible rfl
  rotate_left
  · simp only [Act.put, List.setIfInBounds_toArray, List.set_cons_zero, List.set_cons_succ, i64_w, i32_w]
    rfl
  refine one_ (i := 6) (N := none) #[true, true, true, true, true, true, true, false, false] rfl rfl (one_of HT_.out (by kernel_rfl)) (by decide) (fun K hK => ?_)
  have hs5 : w4.cell? ⟨gb210, 0, none⟩ = some (.int .u64 0) := (blk_cell BK210.out 0).trans rfl
  have hfs5 := blk_frozen BK210.out 0
  have hns5_0 := NB209_210.out
  have hms5_0 := NB210_209.out
  have hs6 : w4.cell? ⟨gb210, 1, none⟩ = some (.int .u64 0) := (blk_cell BK210.out 1).trans rfl
  have hfs6 := blk_frozen BK210.out 1
  have hns6_0 := NB209_210.out
  have hms6_0 := NB210_209.out
  refine skip_ (w1 := ?_) (by rfl) rfl ?_ ?_
  rotate_left
  · go_simp
    rfl
  refine hK.out _ _ ⟨((cell_far (p := ⟨gb210, _, none⟩) NB209_210.out _).trans (((cell_far (p := ⟨gb210, _, none⟩) NB209_210.out _).trans (hHeld.1)))), ((cell_far (p := ⟨gb210, _, none⟩) NB209_210.out _).trans (((cell_far (p := ⟨gb210, _, none⟩) NB209_210.out _).trans (hHeld.2.1)))), ((cell_far (p := ⟨gb210, _, none⟩) NB209_210.out _).trans (((cell_far (p := ⟨gb210, _, none⟩) NB209_210.out _).trans (hHeld.2.2.1)))), ((cell_far (p := ⟨gb210, _, none⟩) NB209_210.out _).trans (((cell_far (p := ⟨gb210, _, none⟩) NB209_210.out _).trans (hHeld.2.2.2.1)))), ((cell_far (p := ⟨gb210, _, none⟩) NB209_210.out _).trans (((cell_far (p := ⟨gb210, _, none⟩) NB209_210.out _).trans (hHeld.2.2.2.2))))⟩ (fun hHeld => ?_)
  clear hK K
  refine pure_ (i := 7) (N := some 3) (v := ?_) (a' := ?_) #[true, true, true, true, true, true, true, true, false] rfl rfl (any_of HT_.out (by kernel_rfl)) (fun _ _ _ h => h) (Or.inl ⟨by rfl, ?_⟩) ?_ ?_
  rotate_left
  · intro w'
    go_simp
    with_reducible rfl
  rotate_left
  · simp only [Act.put, List.setIfInBounds_toArray, List.set_cons_zero, List.set_cons_succ, i64_w, i32_w]
    rfl
  refine pure_ (i := 8) (N := some 4) (v := ?_) (a' := ?_) #[true, true, true, true, true, true, true, true, true] rfl rfl (any_of HT_.out (by kernel_rfl)) (fun _ _ _ h => h) (Or.inl ⟨by rfl, ?_⟩) ?_ ?_
  rotate_left
  · intro w'
    go_simp
    with_reducible rfl
  rotate_left
  · simp only [Act.put, List.setIfInBounds_toArray, List.set_cons_zero, List.set_cons_succ, i64_w, i32_w]
    rfl
  refine done_ (done_of HT_.out (by kernel_rfl)) ?_
  try go_wp2
  refine bodyPost_ret (results_ctt rfl _ _ gb210 46 #[.int .u64 a0_3, .int .u64 a0_4] (0, 0) _ rfl (by (with_reducible repeat (first | refine blk_drewN ?_ _ | refine blk_drew ?_ | refine blk_alloc ?_ _)); refine blk_put (cs := #[.int .u64 a0_3, .int .u64 0]) ?_ 1 _ rfl; (with_reducible repeat (first | refine blk_drewN ?_ _ | refine blk_drew ?_ | refine blk_alloc ?_ _)); refine blk_put (cs := #[.int .u64 0, .int .u64 0]) ?_ 0 _ rfl; (with_reducible repeat (first | refine blk_drewN ?_ _ | refine blk_drew ?_ | refine blk_alloc ?_ _)); exact BK210.out) Tryd.underlying46 rfl (by kernel_rfl)) rfl ?_
  exact ⟨by first | rfl | (simp [errW_none, errW_some] <;> rfl) | (simp [*, errW_none, errW_some] <;> rfl), by repeat (first | (with_reducible first | exact HB.out | apply below_alloc | apply pw_below_drewN | apply below_drew1 | refine below_set ?_ GE209.out | refine below_set ?_ GE210.out) | exact HB.out)⟩

end Go.Proofs.YthfgegaakfgjkaaDoor.PAll
