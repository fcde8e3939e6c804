-- Written by a program of this session (wip/tools)
import Derived.Test.YtielnphmcaecdaaDoorQITPAllx0
import Derived.Test.YtielnphmcaecdaaDoorQITExtTz
namespace Go.Proofs.YtielnphmcaecdaaDoor.PAll
open Go.RowKit Go.Proofs.YtielnphmcaecdaaDoorW.PrintWords Go.Proofs.YtielnphmcaecdaaDoorW.PrintLast Go.Proofs.YtielnphmcaecdaaDoorW.PrintMore
attribute [local go_sem] max2_int min2_int max_two min_two max_three min_three max_four min_four   -- for this text's walks alone
set_option linter.unusedVariables false
set_option linter.unusedSimpArgs false
mutual
def compact_RangeNodes.l0 : Nat → List (S99) → Int → Int → Int → Option ((List (S99)))
  | 0, _, _, _, _ => none
  | k + 1, x2, x7, x8, x9 => if x7 = 0 then (compact_RangeNodes.l1 k x2 x8 x9) else ((bits_TrailingZeros64.f x7).bind fun t157 => (if 0 ≤ (IntKind.u64.wrap (t157)) then ((compact_NewNodeID.f (IntKind.u64.wrap (t157)) (shr .u64 x9 (IntKind.u64.wrap (t157)))).bind fun bt158 => (if x2.length < 8796093022208 then (compact_RangeNodes.l0 k (x2 ++ [(⟨bt158.1, bt158.2⟩ : S99)]) (Go.bits .xor .u64 x7 (shl .u64 1 (IntKind.u64.wrap (t157)))) x8 (IntKind.u64.wrap (x9 + (shl .u64 1 (IntKind.u64.wrap (t157)))))) else (none))) else (none)))
def compact_RangeNodes.l1 : Nat → List (S99) → Int → Int → Option ((List (S99)))
  | 0, _, _, _ => none
  | k + 1, x2, x8, x9 => if x8 = 0 then (some x2) else ((bits_Len64.f k x8).bind fun t163 => (if 0 ≤ (IntKind.u64.wrap ((IntKind.u64.wrap (t163)) - 1)) then ((compact_NewNodeID.f (IntKind.u64.wrap ((IntKind.u64.wrap (t163)) - 1)) (shr .u64 x9 (IntKind.u64.wrap ((IntKind.u64.wrap (t163)) - 1)))).bind fun bt164 => (if x2.length < 8796093022208 then (compact_RangeNodes.l1 k (x2 ++ [(⟨bt164.1, bt164.2⟩ : S99)]) (Go.bits .xor .u64 x8 (shl .u64 1 (IntKind.u64.wrap ((IntKind.u64.wrap (t163)) - 1)))) (IntKind.u64.wrap (x9 + (shl .u64 1 (IntKind.u64.wrap ((IntKind.u64.wrap (t163)) - 1)))))) else (none))) else (none)))
end
def compact_RangeNodes.f (k : Nat) (a0 : Int) (a1 : Int) (l2 : List (S99)) : Option ((List (S99))) := (compact_Decompose.f k a0 a1).bind fun bt155 => (compact_RangeNodes.l0 k l2 bt155.1 bt155.2 a0)
theorem compact_RangeNodes.mono_l : ∀ k, (∀ y0 y1 y2 y3, LeO (compact_RangeNodes.l0 k y0 y1 y2 y3) (compact_RangeNodes.l0 (k + 1) y0 y1 y2 y3)) ∧ (∀ y0 y1 y2, LeO (compact_RangeNodes.l1 k y0 y1 y2) (compact_RangeNodes.l1 (k + 1) y0 y1 y2))
  | 0 => ⟨fun _ _ _ _ r h => by simp [compact_RangeNodes.l0] at h, fun _ _ _ r h => by simp [compact_RangeNodes.l1] at h⟩
  | k + 1 => by
    obtain ⟨ih0, ih1⟩ := compact_RangeNodes.mono_l k
    refine ⟨?_, ?_⟩
    · intro y0 y1 y2 y3
      unfold compact_RangeNodes.l0
      repeat' first
      | (with_reducible exact ih0 _ _ _ _)
      | (with_reducible exact ih1 _ _ _)
      | (with_reducible exact bits_Len64.mono _ _)
      | (with_reducible exact compact_Decompose.mono _ _ _)
      | (with_reducible exact LeO.refl _)
      | (with_reducible exact LeO.none _)
      | (with_reducible refine LeO.ite ?_ ?_)
      | (with_reducible refine LeO.bind ?_ (fun _ => ?_))
      | exact ih0 _ _ _ _
      | exact ih1 _ _ _
      | exact bits_Len64.mono _ _
      | exact compact_Decompose.mono _ _ _
      | exact LeO.none _
      | refine LeO.ite ?_ ?_
      | refine LeO.bind ?_ (fun _ => ?_)
    · intro y0 y1 y2
      unfold compact_RangeNodes.l1
      repeat' first
      | (with_reducible exact ih0 _ _ _ _)
      | (with_reducible exact ih1 _ _ _)
      | (with_reducible exact bits_Len64.mono _ _)
      | (with_reducible exact compact_Decompose.mono _ _ _)
      | (with_reducible exact LeO.refl _)
      | (with_reducible exact LeO.none _)
      | (with_reducible refine LeO.ite ?_ ?_)
      | (with_reducible refine LeO.bind ?_ (fun _ => ?_))
      | exact ih0 _ _ _ _
      | exact ih1 _ _ _
      | exact bits_Len64.mono _ _
      | exact compact_Decompose.mono _ _ _
      | exact LeO.none _
      | refine LeO.ite ?_ ?_
      | refine LeO.bind ?_ (fun _ => ?_)
theorem compact_RangeNodes.mono : ∀ a0 a1 a2 k, LeO (compact_RangeNodes.f k a0 a1 a2) (compact_RangeNodes.f (k + 1) a0 a1 a2) := by
  intro a0 a1 a2 k
  obtain ⟨ih0, ih1⟩ := compact_RangeNodes.mono_l k
  unfold compact_RangeNodes.f
  repeat' first
      | (with_reducible exact ih0 _ _ _ _)
      | (with_reducible exact ih1 _ _ _)
      | (with_reducible exact bits_Len64.mono _ _)
      | (with_reducible exact compact_Decompose.mono _ _ _)
      | (with_reducible exact LeO.refl _)
      | (with_reducible exact LeO.none _)
      | (with_reducible refine LeO.ite ?_ ?_)
      | (with_reducible refine LeO.bind ?_ (fun _ => ?_))
      | exact ih0 _ _ _ _
      | exact ih1 _ _ _
      | exact bits_Len64.mono _ _
      | exact compact_Decompose.mono _ _ _
      | exact LeO.none _
      | refine LeO.ite ?_ ?_
      | refine LeO.bind ?_ (fun _ => ?_)
set_option maxHeartbeats 8000000 in
set_option maxRecDepth 100000 in
theorem compact_RangeNodes.calls (k : Nat) (a0 : Int) (a1 : Int) (P2_ : Nat → Prop) (u9000_ : Value) (l2 : List (S99)) (r : List (S99)) (w0 w : World) (hG : Glob w0) (hB : Below w0.heap.size w0 w) (ho2 : Kd.R k99 99 w w0.heap.size P2_ u9000_ l2) (h : compact_RangeNodes.f k a0 a1 l2 = some r) :
    Calls Tryd.prog 84 #[.int .u64 a0, .int .u64 a1, u9000_] w fun e w' => ∃ v0_ : Value, e = .returned (v0_) ∧ Kd.R k99 99 w' w0.heap.size (fun k_ => (P2_ k_ ∨ w.heap.size ≤ k_)) v0_ r ∧ Below w0.heap.size w0 w' ∧ Kept w w' (fun k_ => P2_ k_) := by
  have HO2 := Aside0.mk (show Kd.R k99 99 w w0.heap.size (fun k_ => (P2_ k_ ∨ w.heap.size ≤ k_)) u9000_ l2 from Kd.R_mono ho2 (fun k_ hk => (.inl hk)))
  have HK := Aside0.mk (Kept.refl w (fun k_ => P2_ k_))
  have HW0 := Aside0.mk hB.size
  have HB := Aside0.mk hB
  clear hB
  have H : ((compact_Decompose.f k a0 a1).bind fun bt155 => (compact_RangeNodes.l0 k l2 bt155.1 bt155.2 a0)) = some r := h
  clear h
  replace H := Option.bind_eq_some_iff.mp H
  obtain ⟨⟨t155, t156⟩, A40, H⟩ := H
  replace H : (compact_RangeNodes.l0 k l2 t155 t156 a0) = some r := H
  have A4 := Aside0.mk A40
  clear A40
  have H' := Aside0.mk H
  clear H
  go_enter Tryd.func84, Tryd.ntmps84
  go_wp2_with (first | ((with_reducible refine gate_callee (f := 108) rfl ?_); refine goesL_ (some 17) rfl rfl Tryd.func108 (by kernel_rfl) rfl #[.int .u64 a0, .int .u64 a1] rfl (by (try simp only [List.map_toArray, List.map_cons, List.map_nil]); first | done | rfl | (simp only [List.length_drop, List.length_take]; rfl)) ?_; (with_reducible refine (compact_Decompose.calls k a0 a1 t155 t156 _ A4.out).mono ?_); rintro e w' ⟨rfl, ⟨nd, rfl⟩⟩; refine ⟨_, rfl, ?_⟩))
  try simp only [Act.put, List.setIfInBounds_toArray, List.set_cons_zero, List.set_cons_succ]
  go_loopg [2, 7, 9] k (fun kq v2 v7 v9 w' => ∃ (x2_1 : List (S99)) (x7_1 : Int) (x9_1 : Int), v7 = .int .u64 x7_1 ∧ v9 = .int .u64 x9_1 ∧ Aside0 (compact_RangeNodes.l0 kq x2_1 x7_1 t156 x9_1 = some r) ∧ Aside0 (kq ≤ k) ∧ Aside0 (Kd.R k99 99 w' w0.heap.size (fun k_ => (P2_ k_ ∨ w.heap.size ≤ k_)) v2 x2_1) ∧ Aside0 (Kept w w' (fun k_ => P2_ k_)) ∧ Aside0 (Below w0.heap.size w0 w'))
  case atStart => exact ⟨(l2), (t155), (a0), (by first | rfl | (simp; done) | (simp [*]; done)), (by first | rfl | (simp; done) | (simp [*]; done)), H', ⟨Nat.le_refl _⟩, ⟨by (with_reducible repeat (first | apply Kd.R_alloc | apply Kd.R_drewN | apply Kd.R_drew)); exact HO2.out⟩, ⟨by repeat (first | (with_reducible first | exact HK.out | apply Kept.alloc | apply Kept.drewN | apply Kept.drew) | exact HK.out)⟩, ⟨by repeat (first | (with_reducible first | exact HB.out | apply below_alloc | apply pw_below_drewN | apply below_drew1) | exact HB.out)⟩⟩
  case round =>
    clear H'
    try clear c1
    try clear p2
    obtain ⟨x2_1, x7_1, x9_1, rfl, rfl, HA, HK1, HO_2, HK, HB⟩ := hrel
    cases gk with
    | zero => exact absurd HA.out (by simp [compact_RangeNodes.l0])
    | succ k1 =>
      have H := HA.out
      clear HA
      simp only [compact_RangeNodes.l0] at H
      by_cases c5 : x7_1 = 0
      · rw [if_pos c5] at H
        have c5b0 : (x7_1 == 0) = true := beq_iff_eq.mpr c5
        have c5b1 : (x7_1 != 0) = false := bne_eq_false_iff_eq.mpr c5
        clear c5
        have H' := Aside0.mk H
        clear H
        go_wp2
        try simp only [Act.put, List.setIfInBounds_toArray, List.set_cons_zero, List.set_cons_succ]
        go_loopg [2, 8, 9] k1 (fun kq v2 v8 v9 w' => ∃ (x2_2 : List (S99)) (x8_2 : Int) (x9_2 : Int), v8 = .int .u64 x8_2 ∧ v9 = .int .u64 x9_2 ∧ Aside0 (compact_RangeNodes.l1 kq x2_2 x8_2 x9_2 = some r) ∧ Aside0 (kq ≤ k1) ∧ Aside0 (Kd.R k99 99 w' w0.heap.size (fun k_ => (P2_ k_ ∨ w.heap.size ≤ k_)) v2 x2_2) ∧ Aside0 (Kept w w' (fun k_ => P2_ k_)) ∧ Aside0 (Below w0.heap.size w0 w'))
        case atStart => exact ⟨(x2_1), (t156), (x9_1), (by first | rfl | (simp; done) | (simp [*]; done)), (by first | rfl | (simp; done) | (simp [*]; done)), H', ⟨Nat.le_refl _⟩, ⟨by (with_reducible repeat (first | apply Kd.R_alloc | apply Kd.R_drewN | apply Kd.R_drew)); exact HO_2.out⟩, ⟨by repeat (first | (with_reducible first | exact HK.out | apply Kept.alloc | apply Kept.drewN | apply Kept.drew) | exact HK.out)⟩, ⟨by repeat (first | (with_reducible first | exact HB.out | apply below_alloc | apply pw_below_drewN | apply below_drew1) | exact HB.out)⟩⟩
        case round =>
          clear H'
          try clear c1
          try clear p2
          try clear c5
          try clear c5b0
          try clear c5b1
          try clear p2
          obtain ⟨x2_2, x8_2, x9_2, rfl, rfl, HA, HK2, HO_2, HK, HB⟩ := hrel
          cases gk with
          | zero => exact absurd HA.out (by simp [compact_RangeNodes.l1])
          | succ k2 =>
            have H := HA.out
            clear HA
            simp only [compact_RangeNodes.l1] at H
            by_cases c6 : x8_2 = 0
            · rw [if_pos c6] at H
              have c6b0 : (x8_2 == 0) = true := beq_iff_eq.mpr c6
              have c6b1 : (x8_2 != 0) = false := bne_eq_false_iff_eq.mpr c6
              clear c6
              obtain rfl := Option.some.inj H
              go_wp2
              go_ret
              exact ⟨_, by first | rfl | (simp [errW_none, errW_some] <;> rfl) | (simp [*, errW_none, errW_some] <;> rfl), by (with_reducible repeat (first | apply Kd.R_alloc | apply Kd.R_drewN | apply Kd.R_drew)); exact HO_2.out, by repeat (first | (with_reducible first | exact HB.out | apply below_alloc | apply pw_below_drewN | apply below_drew1) | exact HB.out), by repeat (first | (with_reducible first | exact HK.out | apply Kept.alloc | apply Kept.drewN | apply Kept.drew) | exact HK.out)⟩
            · rw [if_neg c6] at H
              have c6b0 : (x8_2 == 0) = false := beq_eq_false_iff_ne.mpr c6
              have c6b1 : (x8_2 != 0) = true := bne_iff_ne.mpr c6
              replace H := Option.bind_eq_some_iff.mp H
              obtain ⟨t163, A70, H⟩ := H
              replace H : (if 0 ≤ (IntKind.u64.wrap ((IntKind.u64.wrap (t163)) - 1)) then ((compact_NewNodeID.f (IntKind.u64.wrap ((IntKind.u64.wrap (t163)) - 1)) (shr .u64 x9_2 (IntKind.u64.wrap ((IntKind.u64.wrap (t163)) - 1)))).bind fun bt164 => (if x2_2.length < 8796093022208 then (compact_RangeNodes.l1 k2 (x2_2 ++ [(⟨bt164.1, bt164.2⟩ : S99)]) (Go.bits .xor .u64 x8_2 (shl .u64 1 (IntKind.u64.wrap ((IntKind.u64.wrap (t163)) - 1)))) (IntKind.u64.wrap (x9_2 + (shl .u64 1 (IntKind.u64.wrap ((IntKind.u64.wrap (t163)) - 1)))))) else (none))) else (none)) = some r := H
              have A7 := Aside0.mk A70
              clear A70
              obtain ⟨ji8, hji8⟩ : ∃ j_ : Int, (IntKind.u64.wrap ((IntKind.u64.wrap (t163)) - 1)) = j_ := ⟨_, rfl⟩
              replace H : (if 0 ≤ (ji8) then ((compact_NewNodeID.f (ji8) (shr .u64 x9_2 (ji8))).bind fun bt164 => (if x2_2.length < 8796093022208 then (compact_RangeNodes.l1 k2 (x2_2 ++ [(⟨bt164.1, bt164.2⟩ : S99)]) (Go.bits .xor .u64 x8_2 (shl .u64 1 (ji8))) (IntKind.u64.wrap (x9_2 + (shl .u64 1 (ji8))))) else (none))) else (none)) = some r := by first | (rw [hji8] at H; exact H) | (simp only [hji8] at H ⊢; exact H)
              (try rw [hji8] at A7)
              by_cases c9 : 0 ≤ (ji8)
              · rw [if_pos c9] at H
                have c9b0 := eq_true c9
                have c9b1 : decide (0 ≤ (ji8)) = true := decide_eq_true c9
                clear c9
                obtain ⟨ji10, hji10⟩ : ∃ j_ : Int, (shl .u64 1 (ji8)) = j_ := ⟨_, rfl⟩
                replace H : ((compact_NewNodeID.f (ji8) (shr .u64 x9_2 (ji8))).bind fun bt164 => (if x2_2.length < 8796093022208 then (compact_RangeNodes.l1 k2 (x2_2 ++ [(⟨bt164.1, bt164.2⟩ : S99)]) (Go.bits .xor .u64 x8_2 (ji10)) (IntKind.u64.wrap (x9_2 + (ji10)))) else (none))) = some r := by first | (rw [hji10] at H; exact H) | (simp only [hji10] at H ⊢; exact H)
                (try rw [hji10] at A7)
                have hji10_ : (IntKind.u64.wrap (1 * 2 ^ min (ji8).toNat 64)) = ji10 := hji10
                have hji10z : (ji8) ≤ 64 → (IntKind.u64.wrap (1 * 2 ^ (ji8).toNat)) = ji10 := shl_small hji10
                have hji10u : (IntKind.u64.wrap (2 ^ min (ji8).toNat 64)) = ji10 := by have h_ := hji10_; rw [Int.one_mul] at h_; exact h_
                have hji10v : (ji8) ≤ 64 → (IntKind.u64.wrap (2 ^ (ji8).toNat)) = ji10 := fun hle_ => by have h_ := hji10z hle_; rw [Int.one_mul] at h_; exact h_
                have c11b0 := eq_true (of_decide_eq_true (by first | (with_reducible assumption) | assumption) : 0 ≤ (ji8))
                obtain ⟨ji12, hji12⟩ : ∃ j_ : Int, (shr .u64 x9_2 (ji8)) = j_ := ⟨_, rfl⟩
                replace H : ((compact_NewNodeID.f (ji8) (ji12)).bind fun bt164 => (if x2_2.length < 8796093022208 then (compact_RangeNodes.l1 k2 (x2_2 ++ [(⟨bt164.1, bt164.2⟩ : S99)]) (Go.bits .xor .u64 x8_2 (ji10)) (IntKind.u64.wrap (x9_2 + (ji10)))) else (none))) = some r := by first | (rw [hji12] at H; exact H) | (simp only [hji12] at H ⊢; exact H)
                (try rw [hji12] at A7)
                have hji12_ : (x9_2 / 2 ^ min (ji8).toNat 64) = ji12 := hji12
                have hji12z : (ji8) ≤ 64 → (x9_2 / 2 ^ (ji8).toNat) = ji12 := shr_small hji12
                replace H := Option.bind_eq_some_iff.mp H
                obtain ⟨⟨t164, t165⟩, A130, H⟩ := H
                replace H : (if x2_2.length < 8796093022208 then (compact_RangeNodes.l1 k2 (x2_2 ++ [(⟨t164, t165⟩ : S99)]) (Go.bits .xor .u64 x8_2 (ji10)) (IntKind.u64.wrap (x9_2 + (ji10)))) else (none)) = some r := H
                have A13 := Aside0.mk A130
                clear A130
                by_cases c14 : x2_2.length < 8796093022208
                · rw [if_pos c14] at H
                  have LMc14 := Aside0.mk c14
                  clear c14
                  obtain ⟨y166, hy166⟩ : ∃ y_ : List (S99), y_ = (x2_2 ++ [(⟨t164, t165⟩ : S99)]) := ⟨_, rfl⟩
                  replace H : (compact_RangeNodes.l1 k2 y166 (Go.bits .xor .u64 x8_2 (ji10)) (IntKind.u64.wrap (x9_2 + (ji10)))) = some r := by first | (rw [hy166]; with_reducible exact H) | (have H2_ := (Option.bind_some _ _).symm.trans H; rw [hy166]; with_reducible exact H2_) | (have H2_ := (Option.bind_some _ _).symm.trans H; with_reducible exact H2_) | with_reducible exact H | (rw [hy166]; exact H) | exact H
                  have Ny166 := Aside0.mk hy166
                  clear hy166
                  have H' := Aside0.mk H
                  clear H
                  go_wp2_with (first | ((with_reducible refine gate_callee (f := 109) rfl ?_); refine goesL_ (some 51) rfl rfl Tryd.func109 (by kernel_rfl) rfl #[.int .u64 x8_2] rfl (by (try simp only [List.map_toArray, List.map_cons, List.map_nil]); first | done | rfl | (simp only [List.length_drop, List.length_take]; rfl)) ?_; (with_reducible refine (bits_Len64.calls k2 x8_2 t163 _ A7.out).mono ?_); rintro e w' ⟨rfl, ⟨nd, rfl⟩⟩; refine ⟨_, rfl, ?_⟩) | ((with_reducible refine gate_callee (f := 94) rfl ?_); refine goesL_ (some 61) rfl rfl Tryd.func94 (by kernel_rfl) rfl #[.int .u64 ji8, .int .u64 ji12] rfl (by (try simp only [List.map_toArray, List.map_cons, List.map_nil]); first | done | (simp only [hji12, hji8]; rfl) | rfl | (simp only [List.length_drop, List.length_take]; rfl)) ?_; (with_reducible refine (compact_NewNodeID.calls ji8 ji12 t164 t165 _ A13.out).mono ?_); rintro e w15 ⟨rfl, hb⟩; refine ⟨_, rfl, ?_⟩; have n0_ := Aside0.mk (Kd.R_below (by (with_reducible repeat (first | apply Kd.R_alloc | apply Kd.R_drewN | apply Kd.R_drew)); exact HO_2.out) hb); have n1_ := Aside0.mk (Kept.below (S := (fun k_ => P2_ k_)) (by repeat (first | (with_reducible first | exact HK.out | apply Kept.alloc | apply Kept.drewN | apply Kept.drew) | exact HK.out)) hb); have n2_ := Aside0.mk (below_step (by repeat (first | (with_reducible first | exact HB.out | apply below_alloc | apply pw_below_drewN | apply below_drew1) | exact HB.out)) hb); clear HO_2; clear HK; clear HB; have HO_2 := n0_; have HK := n1_; have HB := n2_; clear n0_ n1_ n2_; (try clear hb); (try clear hb2); (try clear hk); (try clear hi)) | ((with_reducible refine gate_builtin (b := .append) (xs := #[.tmp 56, .tmp 62]) rfl ?_); at_builtin; refine Kd.R_append k99 (w0 := w0) w0.heap.size rfl (.tmp 56) (.tmp 62) 110 99 (.agg #[(.int .u64 0), (.int .u64 0)]) 16 rfl Tryd.underlying110 info99 rfl (by decide) (by omega) u2 x2_2 (⟨t164, t165⟩ : S99) [.int .u64 t164, .int .u64 t165] (fun k_ => (P2_ k_ ∨ w.heap.size ≤ k_)) (fun _ => False) rfl rfl ?aP (fun _ hk => hk.elim) ?aF ?aO ?aB ?aS ?aL ?_; (case aP => exact k99_mkM _ _ _ (⟨t164, t165⟩ : S99)); (case aB => exact (by repeat (first | (with_reducible first | exact HB.out | apply below_alloc | apply pw_below_drewN | apply below_drew1) | exact HB.out))); (case aF => exact (fun k_ hk => (.inr (Nat.le_trans (by first | exact HK.out.1 | exact (show Kept w _ (fun k_ => P2_ k_) from by repeat (first | (with_reducible first | exact HK.out | apply Kept.alloc | apply Kept.drewN | apply Kept.drew) | exact HK.out)).1) hk)))); (case aO => exact (by (with_reducible repeat (first | apply Kd.R_alloc | apply Kd.R_drewN | apply Kd.R_drew)); exact HO_2.out)); (case aS => exact (below_size (by repeat (first | (with_reducible first | exact HB.out | apply below_alloc | apply pw_below_drewN | apply below_drew1) | exact HB.out)))); (case aL => have := LMc14.out; omega); intro v167 w16 ho hb hg hat; rw [← Ny166.out] at ho; have n0_ := Aside0.mk (hb); have n1_ := Aside0.mk (Kept.of_grown (S := (fun k_ => P2_ k_)) hg (by repeat (first | (with_reducible first | exact HK.out | apply Kept.alloc | apply Kept.drewN | apply Kept.drew) | exact HK.out)) (fun k_ e_ => (HO_2.out.1 k_ e_))); have n2_ := Aside0.mk (ho); clear HB; clear HK; clear HO_2; have HB := n0_; have HK := n1_; have HO168 := n2_; clear n0_ n1_ n2_; clear ho hb hg hat))
                  go_roundg k2
                  case measure => have := HK1.out; have := HK2.out; omega
                  case rel => exact ⟨(y166), (Go.bits .xor .u64 x8_2 (ji10)), (IntKind.u64.wrap (x9_2 + (ji10))), (by first | rfl | (simp; done) | (simp only [← hji10] <;> (first | rfl | simp)) | (simp [*]; done)), (by first | rfl | (simp; done) | (simp only [← hji10] <;> (first | rfl | simp)) | (simp [*]; done)), H', ⟨by have := HK1.out; have := HK2.out; omega⟩, ⟨by (with_reducible repeat (first | apply Kd.R_alloc | apply Kd.R_drewN | apply Kd.R_drew)); exact HO168.out⟩, ⟨by repeat (first | (with_reducible first | exact HK.out | apply Kept.alloc | apply Kept.drewN | apply Kept.drew) | exact HK.out)⟩, ⟨by repeat (first | (with_reducible first | exact HB.out | apply below_alloc | apply pw_below_drewN | apply below_drew1) | exact HB.out)⟩⟩
                · rw [if_neg c14] at H
                  exact absurd H (by simp)
              · rw [if_neg c9] at H
                exact absurd H (by simp)
      · rw [if_neg c5] at H
        have c5b0 : (x7_1 == 0) = false := beq_eq_false_iff_ne.mpr c5
        have c5b1 : (x7_1 != 0) = true := bne_iff_ne.mpr c5
        replace H := Option.bind_eq_some_iff.mp H
        obtain ⟨t157, A170, H⟩ := H
        replace H : (if 0 ≤ (IntKind.u64.wrap (t157)) then ((compact_NewNodeID.f (IntKind.u64.wrap (t157)) (shr .u64 x9_1 (IntKind.u64.wrap (t157)))).bind fun bt158 => (if x2_1.length < 8796093022208 then (compact_RangeNodes.l0 k1 (x2_1 ++ [(⟨bt158.1, bt158.2⟩ : S99)]) (Go.bits .xor .u64 x7_1 (shl .u64 1 (IntKind.u64.wrap (t157)))) t156 (IntKind.u64.wrap (x9_1 + (shl .u64 1 (IntKind.u64.wrap (t157)))))) else (none))) else (none)) = some r := H
        have A17 := Aside0.mk A170
        clear A170
        obtain ⟨ji18, hji18⟩ : ∃ j_ : Int, (IntKind.u64.wrap (t157)) = j_ := ⟨_, rfl⟩
        replace H : (if 0 ≤ (ji18) then ((compact_NewNodeID.f (ji18) (shr .u64 x9_1 (ji18))).bind fun bt158 => (if x2_1.length < 8796093022208 then (compact_RangeNodes.l0 k1 (x2_1 ++ [(⟨bt158.1, bt158.2⟩ : S99)]) (Go.bits .xor .u64 x7_1 (shl .u64 1 (ji18))) t156 (IntKind.u64.wrap (x9_1 + (shl .u64 1 (ji18))))) else (none))) else (none)) = some r := by first | (rw [hji18] at H; exact H) | (simp only [hji18] at H ⊢; exact H)
        (try rw [hji18] at A17)
        by_cases c19 : 0 ≤ (ji18)
        · rw [if_pos c19] at H
          have c19b0 := eq_true c19
          have c19b1 : decide (0 ≤ (ji18)) = true := decide_eq_true c19
          clear c19
          obtain ⟨ji20, hji20⟩ : ∃ j_ : Int, (shl .u64 1 (ji18)) = j_ := ⟨_, rfl⟩
          replace H : ((compact_NewNodeID.f (ji18) (shr .u64 x9_1 (ji18))).bind fun bt158 => (if x2_1.length < 8796093022208 then (compact_RangeNodes.l0 k1 (x2_1 ++ [(⟨bt158.1, bt158.2⟩ : S99)]) (Go.bits .xor .u64 x7_1 (ji20)) t156 (IntKind.u64.wrap (x9_1 + (ji20)))) else (none))) = some r := by first | (rw [hji20] at H; exact H) | (simp only [hji20] at H ⊢; exact H)
          (try rw [hji20] at A17)
          have hji20_ : (IntKind.u64.wrap (1 * 2 ^ min (ji18).toNat 64)) = ji20 := hji20
          have hji20z : (ji18) ≤ 64 → (IntKind.u64.wrap (1 * 2 ^ (ji18).toNat)) = ji20 := shl_small hji20
          have hji20u : (IntKind.u64.wrap (2 ^ min (ji18).toNat 64)) = ji20 := by have h_ := hji20_; rw [Int.one_mul] at h_; exact h_
          have hji20v : (ji18) ≤ 64 → (IntKind.u64.wrap (2 ^ (ji18).toNat)) = ji20 := fun hle_ => by have h_ := hji20z hle_; rw [Int.one_mul] at h_; exact h_
          have c21b0 := eq_true (of_decide_eq_true (by first | (with_reducible assumption) | assumption) : 0 ≤ (ji18))
          obtain ⟨ji22, hji22⟩ : ∃ j_ : Int, (shr .u64 x9_1 (ji18)) = j_ := ⟨_, rfl⟩
          replace H : ((compact_NewNodeID.f (ji18) (ji22)).bind fun bt158 => (if x2_1.length < 8796093022208 then (compact_RangeNodes.l0 k1 (x2_1 ++ [(⟨bt158.1, bt158.2⟩ : S99)]) (Go.bits .xor .u64 x7_1 (ji20)) t156 (IntKind.u64.wrap (x9_1 + (ji20)))) else (none))) = some r := by first | (rw [hji22] at H; exact H) | (simp only [hji22] at H ⊢; exact H)
          (try rw [hji22] at A17)
          have hji22_ : (x9_1 / 2 ^ min (ji18).toNat 64) = ji22 := hji22
          have hji22z : (ji18) ≤ 64 → (x9_1 / 2 ^ (ji18).toNat) = ji22 := shr_small hji22
          replace H := Option.bind_eq_some_iff.mp H
          obtain ⟨⟨t158, t159⟩, A230, H⟩ := H
          replace H : (if x2_1.length < 8796093022208 then (compact_RangeNodes.l0 k1 (x2_1 ++ [(⟨t158, t159⟩ : S99)]) (Go.bits .xor .u64 x7_1 (ji20)) t156 (IntKind.u64.wrap (x9_1 + (ji20)))) else (none)) = some r := H
          have A23 := Aside0.mk A230
          clear A230
          by_cases c24 : x2_1.length < 8796093022208
          · rw [if_pos c24] at H
            have LMc24 := Aside0.mk c24
            clear c24
            obtain ⟨y160, hy160⟩ : ∃ y_ : List (S99), y_ = (x2_1 ++ [(⟨t158, t159⟩ : S99)]) := ⟨_, rfl⟩
            replace H : (compact_RangeNodes.l0 k1 y160 (Go.bits .xor .u64 x7_1 (ji20)) t156 (IntKind.u64.wrap (x9_1 + (ji20)))) = some r := by first | (rw [hy160]; with_reducible exact H) | (have H2_ := (Option.bind_some _ _).symm.trans H; rw [hy160]; with_reducible exact H2_) | (have H2_ := (Option.bind_some _ _).symm.trans H; with_reducible exact H2_) | with_reducible exact H | (rw [hy160]; exact H) | exact H
            have Ny160 := Aside0.mk hy160
            clear hy160
            have H' := Aside0.mk H
            clear H
            go_wp2_with (first | ((with_reducible refine gate_callee (f := 95) rfl ?_); refine goesL_ (some 30) rfl rfl Tryd.func95 (by kernel_rfl) rfl #[.int .u64 x7_1] rfl (by (try simp only [List.map_toArray, List.map_cons, List.map_nil]); first | done | rfl | (simp only [List.length_drop, List.length_take]; rfl)) ?_; (with_reducible refine (bits_TrailingZeros64.calls x7_1 t157 _ ?side1 A17.out).mono ?_); (case side1 => exact Glob.below hG (by repeat (first | (with_reducible first | exact HB.out | apply below_alloc | apply pw_below_drewN | apply below_drew1) | exact HB.out))); rintro e w' ⟨rfl, ⟨nd, rfl⟩⟩; refine ⟨_, rfl, ?_⟩) | ((with_reducible refine gate_callee (f := 94) rfl ?_); refine goesL_ (some 39) rfl rfl Tryd.func94 (by kernel_rfl) rfl #[.int .u64 ji18, .int .u64 ji22] rfl (by (try simp only [List.map_toArray, List.map_cons, List.map_nil]); first | done | (simp only [hji18, hji22]; rfl) | rfl | (simp only [List.length_drop, List.length_take]; rfl)) ?_; (with_reducible refine (compact_NewNodeID.calls ji18 ji22 t158 t159 _ A23.out).mono ?_); rintro e w25 ⟨rfl, hb⟩; refine ⟨_, rfl, ?_⟩; have n0_ := Aside0.mk (Kd.R_below (by (with_reducible repeat (first | apply Kd.R_alloc | apply Kd.R_drewN | apply Kd.R_drew)); exact HO_2.out) hb); have n1_ := Aside0.mk (Kept.below (S := (fun k_ => P2_ k_)) (by repeat (first | (with_reducible first | exact HK.out | apply Kept.alloc | apply Kept.drewN | apply Kept.drew) | exact HK.out)) hb); have n2_ := Aside0.mk (below_step (by repeat (first | (with_reducible first | exact HB.out | apply below_alloc | apply pw_below_drewN | apply below_drew1) | exact HB.out)) hb); clear HO_2; clear HK; clear HB; have HO_2 := n0_; have HK := n1_; have HB := n2_; clear n0_ n1_ n2_; (try clear hb); (try clear hb2); (try clear hk); (try clear hi)) | ((with_reducible refine gate_builtin (b := .append) (xs := #[.tmp 34, .tmp 40]) rfl ?_); at_builtin; refine Kd.R_append k99 (w0 := w0) w0.heap.size rfl (.tmp 34) (.tmp 40) 110 99 (.agg #[(.int .u64 0), (.int .u64 0)]) 16 rfl Tryd.underlying110 info99 rfl (by decide) (by omega) u2 x2_1 (⟨t158, t159⟩ : S99) [.int .u64 t158, .int .u64 t159] (fun k_ => (P2_ k_ ∨ w.heap.size ≤ k_)) (fun _ => False) rfl rfl ?aP (fun _ hk => hk.elim) ?aF ?aO ?aB ?aS ?aL ?_; (case aP => exact k99_mkM _ _ _ (⟨t158, t159⟩ : S99)); (case aB => exact (by repeat (first | (with_reducible first | exact HB.out | apply below_alloc | apply pw_below_drewN | apply below_drew1) | exact HB.out))); (case aF => exact (fun k_ hk => (.inr (Nat.le_trans (by first | exact HK.out.1 | exact (show Kept w _ (fun k_ => P2_ k_) from by repeat (first | (with_reducible first | exact HK.out | apply Kept.alloc | apply Kept.drewN | apply Kept.drew) | exact HK.out)).1) hk)))); (case aO => exact (by (with_reducible repeat (first | apply Kd.R_alloc | apply Kd.R_drewN | apply Kd.R_drew)); exact HO_2.out)); (case aS => exact (below_size (by repeat (first | (with_reducible first | exact HB.out | apply below_alloc | apply pw_below_drewN | apply below_drew1) | exact HB.out)))); (case aL => have := LMc24.out; omega); intro v161 w26 ho hb hg hat; rw [← Ny160.out] at ho; have n0_ := Aside0.mk (hb); have n1_ := Aside0.mk (Kept.of_grown (S := (fun k_ => P2_ k_)) hg (by repeat (first | (with_reducible first | exact HK.out | apply Kept.alloc | apply Kept.drewN | apply Kept.drew) | exact HK.out)) (fun k_ e_ => (HO_2.out.1 k_ e_))); have n2_ := Aside0.mk (ho); clear HB; clear HK; clear HO_2; have HB := n0_; have HK := n1_; have HO162 := n2_; clear n0_ n1_ n2_; clear ho hb hg hat))
            go_roundg k1
            case measure => have := HK1.out; omega
            case rel => exact ⟨(y160), (Go.bits .xor .u64 x7_1 (ji20)), (IntKind.u64.wrap (x9_1 + (ji20))), (by first | rfl | (simp; done) | (simp only [← hji20] <;> (first | rfl | simp)) | (simp [*]; done)), (by first | rfl | (simp; done) | (simp only [← hji20] <;> (first | rfl | simp)) | (simp [*]; done)), H', ⟨by have := HK1.out; omega⟩, ⟨by (with_reducible repeat (first | apply Kd.R_alloc | apply Kd.R_drewN | apply Kd.R_drew)); exact HO162.out⟩, ⟨by repeat (first | (with_reducible first | exact HK.out | apply Kept.alloc | apply Kept.drewN | apply Kept.drew) | exact HK.out)⟩, ⟨by repeat (first | (with_reducible first | exact HB.out | apply below_alloc | apply pw_below_drewN | apply below_drew1) | exact HB.out)⟩⟩
          · rw [if_neg c24] at H
            exact absurd H (by simp)
        · rw [if_neg c19] at H
          exact absurd H (by simp)
def compact_NodeID_Coverage.f (a0_0 : Int) (a0_1 : Int) : Option (Int × Int) := if 0 ≤ a0_0 then (some (shl .u64 a0_1 a0_0, shl .u64 (IntKind.u64.wrap (a0_1 + 1)) a0_0)) else (none)
set_option maxHeartbeats 8000000 in
set_option maxRecDepth 100000 in
theorem compact_NodeID_Coverage.calls (a0_0 : Int) (a0_1 : Int) (r1 : Int) (r2 : Int) (w : World) (h : compact_NodeID_Coverage.f a0_0 a0_1 = some (r1, r2)) :
    Calls Tryd.prog 112 #[.agg #[.int .u64 a0_0, .int .u64 a0_1]] w fun e w' => e = .returned (.tuple #[.int .u64 r1, .int .u64 r2]) ∧ Below w.heap.size w w' := by
  have hu99 := Tryd.underlying99
  have HB := Aside0.mk (Below.refl w.heap.size w)
  have H : (if 0 ≤ a0_0 then (some (shl .u64 a0_1 a0_0, shl .u64 (IntKind.u64.wrap (a0_1 + 1)) a0_0)) else (none)) = some (r1, r2) := h
  clear h
  by_cases c2 : 0 ≤ a0_0
  · rw [if_pos c2] at H
    have c2b0 := eq_true c2
    have c2b1 : decide (0 ≤ a0_0) = true := decide_eq_true c2
    clear c2
    obtain ⟨ji3, hji3⟩ : ∃ j_ : Int, (shl .u64 a0_1 a0_0) = j_ := ⟨_, rfl⟩
    replace H : (some (ji3, shl .u64 (IntKind.u64.wrap (a0_1 + 1)) a0_0)) = some (r1, r2) := by first | (rw [hji3] at H; exact H) | (simp only [hji3] at H ⊢; exact H)
    have hji3_ : (IntKind.u64.wrap (a0_1 * 2 ^ min a0_0.toNat 64)) = ji3 := hji3
    have hji3z : a0_0 ≤ 64 → (IntKind.u64.wrap (a0_1 * 2 ^ a0_0.toNat)) = ji3 := shl_small hji3
    have c4b0 := eq_true (of_decide_eq_true (by first | (with_reducible assumption) | assumption) : 0 ≤ a0_0)
    obtain ⟨ji5, hji5⟩ : ∃ j_ : Int, (shl .u64 (IntKind.u64.wrap (a0_1 + 1)) a0_0) = j_ := ⟨_, rfl⟩
    replace H : (some (ji3, ji5)) = some (r1, r2) := by first | (rw [hji5] at H; exact H) | (simp only [hji5] at H ⊢; exact H)
    have hji5_ : (IntKind.u64.wrap ((IntKind.u64.wrap (a0_1 + 1)) * 2 ^ min a0_0.toNat 64)) = ji5 := hji5
    have hji5z : a0_0 ≤ 64 → (IntKind.u64.wrap ((IntKind.u64.wrap (a0_1 + 1)) * 2 ^ a0_0.toNat)) = ji5 := shl_small hji5
    simp only [Option.some.injEq, Prod.mk.injEq] at H
    obtain ⟨rfl, rfl⟩ := H
    go_enter Tryd.func112, Tryd.ntmps112
    go_wp2_with (first | ((with_reducible refine gate_dst (N := 1) rfl ?_); refine box_event ?hg (N := 1) ?hd (cs := #[.int .u64 a0_0, .int .u64 a0_1]) (t := 99) ?hr ?_; (case hd => rfl); (case hg => rfl); (case hr => first | (go_simp; done) | (go_simp; rfl)); intro gb169 hg w6 hbox hb; have n0_ := Aside0.mk (below_step (by repeat (first | (with_reducible first | exact HB.out | apply below_alloc | apply pw_below_drewN | apply below_drew1) | exact HB.out)) hb); have n1_ := Aside0.mk (hbox); have n2_ := Aside0.mk ((by rw [hg]; exact (below_size (by repeat (first | (with_reducible first | exact HB.out | apply below_alloc | apply pw_below_drewN | apply below_drew1) | exact HB.out))) : w.heap.size ≤ gb169)); have n3_ := Aside0.mk ((by rw [hg]; exact (below_size (by repeat (first | (with_reducible first | exact HB.out | apply below_alloc | apply pw_below_drewN | apply below_drew1) | exact HB.out))) : w.heap.size ≤ gb169)); clear HB; have HB := n0_; have BK169 := n1_; have GW169 := n2_; have GE169 := n3_; clear n0_ n1_ n2_ n3_; clear hb hbox hg; have hcz7_0 : w6.cell? ⟨gb169, 0, none⟩ = some (.int .u64 a0_0) := (blk_cell BK169.out 0).trans rfl; have hcz7_1 : w6.cell? ⟨gb169, 1, none⟩ = some (.int .u64 a0_1) := (blk_cell BK169.out 1).trans rfl; have hfz7_0 := blk_frozen BK169.out 0; have hfz7_1 := blk_frozen BK169.out 1))
    repeat (go_quiet (first | ((with_reducible refine gate_dst (N := 1) rfl ?_); refine box_event ?hg (N := 1) ?hd (cs := #[.int .u64 a0_0, .int .u64 a0_1]) (t := 99) ?hr ?_; (case hd => rfl); (case hg => rfl); (case hr => first | (go_simp; done) | (go_simp; rfl)); intro gb169 hg w6 hbox hb; have n0_ := Aside0.mk (below_step (by repeat (first | (with_reducible first | exact HB.out | apply below_alloc | apply pw_below_drewN | apply below_drew1) | exact HB.out)) hb); have n1_ := Aside0.mk (hbox); have n2_ := Aside0.mk ((by rw [hg]; exact (below_size (by repeat (first | (with_reducible first | exact HB.out | apply below_alloc | apply pw_below_drewN | apply below_drew1) | exact HB.out))) : w.heap.size ≤ gb169)); have n3_ := Aside0.mk ((by rw [hg]; exact (below_size (by repeat (first | (with_reducible first | exact HB.out | apply below_alloc | apply pw_below_drewN | apply below_drew1) | exact HB.out))) : w.heap.size ≤ gb169)); clear HB; have HB := n0_; have BK169 := n1_; have GW169 := n2_; have GE169 := n3_; clear n0_ n1_ n2_ n3_; clear hb hbox hg; have hcz7_0 : w6.cell? ⟨gb169, 0, none⟩ = some (.int .u64 a0_0) := (blk_cell BK169.out 0).trans rfl; have hcz7_1 : w6.cell? ⟨gb169, 1, none⟩ = some (.int .u64 a0_1) := (blk_cell BK169.out 1).trans rfl; have hfz7_0 := blk_frozen BK169.out 0; have hfz7_1 := blk_frozen BK169.out 1)); try go_wp2_with (first | ((with_reducible refine gate_dst (N := 1) rfl ?_); refine box_event ?hg (N := 1) ?hd (cs := #[.int .u64 a0_0, .int .u64 a0_1]) (t := 99) ?hr ?_; (case hd => rfl); (case hg => rfl); (case hr => first | (go_simp; done) | (go_simp; rfl)); intro gb169 hg w6 hbox hb; have n0_ := Aside0.mk (below_step (by repeat (first | (with_reducible first | exact HB.out | apply below_alloc | apply pw_below_drewN | apply below_drew1) | exact HB.out)) hb); have n1_ := Aside0.mk (hbox); have n2_ := Aside0.mk ((by rw [hg]; exact (below_size (by repeat (first | (with_reducible first | exact HB.out | apply below_alloc | apply pw_below_drewN | apply below_drew1) | exact HB.out))) : w.heap.size ≤ gb169)); have n3_ := Aside0.mk ((by rw [hg]; exact (below_size (by repeat (first | (with_reducible first | exact HB.out | apply below_alloc | apply pw_below_drewN | apply below_drew1) | exact HB.out))) : w.heap.size ≤ gb169)); clear HB; have HB := n0_; have BK169 := n1_; have GW169 := n2_; have GE169 := n3_; clear n0_ n1_ n2_ n3_; clear hb hbox hg; have hcz7_0 : w6.cell? ⟨gb169, 0, none⟩ = some (.int .u64 a0_0) := (blk_cell BK169.out 0).trans rfl; have hcz7_1 : w6.cell? ⟨gb169, 1, none⟩ = some (.int .u64 a0_1) := (blk_cell BK169.out 1).trans rfl; have hfz7_0 := blk_frozen BK169.out 0; have hfz7_1 := blk_frozen BK169.out 1)))
    go_ret2
    exact ⟨by first | rfl | (simp [errW_none, errW_some] <;> rfl) | (simp only [← hji3, ← hji5]; first | rfl | (simp [errW_none, errW_some] <;> rfl)) | (simp [*, errW_none, errW_some] <;> rfl), by repeat (first | (with_reducible first | exact HB.out | apply below_alloc | apply pw_below_drewN | apply below_drew1 | refine below_set ?_ GE169.out) | exact HB.out)⟩
  · rw [if_neg c2] at H
    exact absurd H (by simp)
def compact_NodeID_Parent.f (a0_0 : Int) (a0_1 : Int) : Option (Int × Int) := (compact_NewNodeID.f (IntKind.u64.wrap (a0_0 + 1)) (a0_1 / 2)).bind fun bt172 => (some (bt172.1, bt172.2))
set_option maxHeartbeats 8000000 in
set_option maxRecDepth 100000 in
theorem compact_NodeID_Parent.calls (a0_0 : Int) (a0_1 : Int) (r1 : Int) (r2 : Int) (w : World) (h : compact_NodeID_Parent.f a0_0 a0_1 = some (r1, r2)) :
    Calls Tryd.prog 113 #[.agg #[.int .u64 a0_0, .int .u64 a0_1]] w fun e w' => e = .returned (.agg #[.int .u64 r1, .int .u64 r2]) ∧ Below w.heap.size w w' := by
  have hu99 := Tryd.underlying99
  have HB := Aside0.mk (Below.refl w.heap.size w)
  have H : ((compact_NewNodeID.f (IntKind.u64.wrap (a0_0 + 1)) (a0_1 / 2)).bind fun bt172 => (some (bt172.1, bt172.2))) = some (r1, r2) := h
  clear h
  replace H := Option.bind_eq_some_iff.mp H
  obtain ⟨⟨t172, t173⟩, A20, H⟩ := H
  replace H : (some (t172, t173)) = some (r1, r2) := H
  have A2 := Aside0.mk A20
  clear A20
  simp only [Option.some.injEq, Prod.mk.injEq] at H
  obtain ⟨rfl, rfl⟩ := H
  go_enter Tryd.func113, Tryd.ntmps113
  go_wp2_with (first | ((with_reducible refine gate_dst (N := 1) rfl ?_); refine box_event ?hg (N := 1) ?hd (cs := #[.int .u64 a0_0, .int .u64 a0_1]) (t := 99) ?hr ?_; (case hd => rfl); (case hg => rfl); (case hr => first | (go_simp; done) | (go_simp; rfl)); intro gb170 hg w3 hbox hb; have n0_ := Aside0.mk (below_step (by repeat (first | (with_reducible first | exact HB.out | apply below_alloc | apply pw_below_drewN | apply below_drew1) | exact HB.out)) hb); have n1_ := Aside0.mk (hbox); have n2_ := Aside0.mk ((by rw [hg]; exact (below_size (by repeat (first | (with_reducible first | exact HB.out | apply below_alloc | apply pw_below_drewN | apply below_drew1) | exact HB.out))) : w.heap.size ≤ gb170)); have n3_ := Aside0.mk ((by rw [hg]; exact (below_size (by repeat (first | (with_reducible first | exact HB.out | apply below_alloc | apply pw_below_drewN | apply below_drew1) | exact HB.out))) : w.heap.size ≤ gb170)); clear HB; have HB := n0_; have BK170 := n1_; have GW170 := n2_; have GE170 := n3_; clear n0_ n1_ n2_ n3_; clear hb hbox hg) | ((with_reducible refine gate_dst (N := 2) rfl ?_); refine box_event ?hg (N := 2) ?hd (cs := #[.int .u64 0, .int .u64 0]) (t := 99) ?hr ?_; (case hd => rfl); (case hg => rfl); (case hr => first | (go_simp; done) | (go_simp; rfl)); intro gb171 hg w4 hbox hb; have n0_ := Aside0.mk (blk_below (g := gb170) (o := .cells #[.int .u64 a0_0, .int .u64 a0_1] 99 (0, 0)) (by (with_reducible repeat (first | refine blk_drewN ?_ _ | refine blk_drew ?_ | refine blk_alloc ?_ _)); exact BK170.out) hb); have n1_ := Aside0.mk (below_step (by repeat (first | (with_reducible first | exact HB.out | apply below_alloc | apply pw_below_drewN | apply below_drew1 | refine below_set ?_ GE170.out) | exact HB.out)) hb); have n2_ := Aside0.mk (hbox); have n3_ := Aside0.mk ((by rw [hg]; exact (below_size (by repeat (first | (with_reducible first | exact HB.out | apply below_alloc | apply pw_below_drewN | apply below_drew1 | refine below_set ?_ GE170.out) | exact HB.out))) : w.heap.size ≤ gb171)); have n4_ := Aside0.mk ((by rw [hg]; exact (below_size (by repeat (first | (with_reducible first | exact HB.out | apply below_alloc | apply pw_below_drewN | apply below_drew1 | refine below_set ?_ GE170.out) | exact HB.out))) : w.heap.size ≤ gb171)); have n5_ := Aside0.mk ((by rw [hg]; exact Nat.ne_of_lt (blk_lt (g := gb170) (o := .cells #[.int .u64 a0_0, .int .u64 a0_1] 99 (0, 0)) (by (with_reducible repeat (first | refine blk_drewN ?_ _ | refine blk_drew ?_ | refine blk_alloc ?_ _)); exact BK170.out)) : gb170 ≠ gb171)); have n6_ := Aside0.mk ((by rw [hg]; exact Nat.ne_of_gt (blk_lt (g := gb170) (o := .cells #[.int .u64 a0_0, .int .u64 a0_1] 99 (0, 0)) (by (with_reducible repeat (first | refine blk_drewN ?_ _ | refine blk_drew ?_ | refine blk_alloc ?_ _)); exact BK170.out)) : gb171 ≠ gb170)); clear BK170; clear HB; have BK170 := n0_; have HB := n1_; have BK171 := n2_; have GW171 := n3_; have GE171 := n4_; have NB170_171 := n5_; have NB171_170 := n6_; clear n0_ n1_ n2_ n3_ n4_ n5_ n6_; clear hb hbox hg; have hnb5 := NB170_171.out; have hnc5 := NB171_170.out; have hcz6_0 : w4.cell? ⟨gb170, 0, none⟩ = some (.int .u64 a0_0) := (blk_cell BK170.out 0).trans rfl; have hcz6_1 : w4.cell? ⟨gb170, 1, none⟩ = some (.int .u64 a0_1) := (blk_cell BK170.out 1).trans rfl; have hfz6_0 := blk_frozen BK170.out 0; have hfz6_1 := blk_frozen BK170.out 1) | ((with_reducible refine gate_callee (f := 94) rfl ?_); refine goesL_ (some 9) rfl rfl Tryd.func94 (by kernel_rfl) rfl #[.int .u64 (IntKind.u64.wrap (a0_0 + 1)), .int .u64 (a0_1 / 2)] rfl (by (try simp only [List.map_toArray, List.map_cons, List.map_nil]); first | done | rfl | (simp only [List.length_drop, List.length_take]; rfl)) ?_; (with_reducible refine (compact_NewNodeID.calls (IntKind.u64.wrap (a0_0 + 1)) (a0_1 / 2) t172 t173 _ A2.out).mono ?_); rintro e w7 ⟨rfl, hb⟩; refine ⟨_, rfl, ?_⟩; have n0_ := Aside0.mk (blk_below (g := gb170) (o := .cells #[.int .u64 a0_0, .int .u64 a0_1] 99 (0, 0)) (by (with_reducible repeat (first | refine blk_drewN ?_ _ | refine blk_drew ?_ | refine blk_alloc ?_ _)); exact BK170.out) hb); have n1_ := Aside0.mk (blk_below (g := gb171) (o := .cells #[.int .u64 0, .int .u64 0] 99 (0, 0)) (by (with_reducible repeat (first | refine blk_drewN ?_ _ | refine blk_drew ?_ | refine blk_alloc ?_ _)); exact BK171.out) hb); have n2_ := Aside0.mk (below_step (by repeat (first | (with_reducible first | exact HB.out | apply below_alloc | apply pw_below_drewN | apply below_drew1 | refine below_set ?_ GE170.out | refine below_set ?_ GE171.out) | exact HB.out)) hb); clear BK170; clear BK171; clear HB; have BK170 := n0_; have BK171 := n1_; have HB := n2_; clear n0_ n1_ n2_; (try clear hb); (try clear hb2); (try clear hk); (try clear hi); have hcz8_0 : w7.cell? ⟨gb171, 0, none⟩ = some (.int .u64 0) := (blk_cell BK171.out 0).trans rfl; have hcz8_1 : w7.cell? ⟨gb171, 1, none⟩ = some (.int .u64 0) := (blk_cell BK171.out 1).trans rfl; have hfz8_0 := blk_frozen BK171.out 0; have hfz8_1 := blk_frozen BK171.out 1))
  refine bodyPost_ret (results_cell_row rfl _ _ gb171 99 #[.int .u64 t172, .int .u64 t173] (0, 0) _ rfl (by (with_reducible repeat (first | refine blk_drewN ?_ _ | refine blk_drew ?_ | refine blk_alloc ?_ _)); refine blk_put (cs := #[.int .u64 t172, .int .u64 0]) ?_ 1 _ rfl; (with_reducible repeat (first | refine blk_drewN ?_ _ | refine blk_drew ?_ | refine blk_alloc ?_ _)); refine blk_put (cs := #[.int .u64 0, .int .u64 0]) ?_ 0 _ rfl; (with_reducible repeat (first | refine blk_drewN ?_ _ | refine blk_drew ?_ | refine blk_alloc ?_ _)); exact BK171.out) Tryd.underlying99 rfl (by kernel_rfl)) rfl ?_
  exact ⟨by first | rfl | (simp [errW_none, errW_some] <;> rfl) | (simp [*, errW_none, errW_some] <;> rfl), by repeat (first | (with_reducible first | exact HB.out | apply below_alloc | apply pw_below_drewN | apply below_drew1 | refine below_set ?_ GE170.out | refine below_set ?_ GE171.out) | exact HB.out)⟩
def compact_NodeID_Sibling.f (a0_0 : Int) (a0_1 : Int) : Option (Int × Int) := (compact_NewNodeID.f a0_0 (Go.bits .xor .u64 a0_1 1)).bind fun bt176 => (some (bt176.1, bt176.2))
set_option maxHeartbeats 8000000 in
set_option maxRecDepth 100000 in
theorem compact_NodeID_Sibling.calls (a0_0 : Int) (a0_1 : Int) (r1 : Int) (r2 : Int) (w : World) (h : compact_NodeID_Sibling.f a0_0 a0_1 = some (r1, r2)) :
    Calls Tryd.prog 114 #[.agg #[.int .u64 a0_0, .int .u64 a0_1]] w fun e w' => e = .returned (.agg #[.int .u64 r1, .int .u64 r2]) ∧ Below w.heap.size w w' := by
  have hu99 := Tryd.underlying99
  have HB := Aside0.mk (Below.refl w.heap.size w)
  have H : ((compact_NewNodeID.f a0_0 (Go.bits .xor .u64 a0_1 1)).bind fun bt176 => (some (bt176.1, bt176.2))) = some (r1, r2) := h
  clear h
  replace H := Option.bind_eq_some_iff.mp H
  obtain ⟨⟨t176, t177⟩, A20, H⟩ := H
  replace H : (some (t176, t177)) = some (r1, r2) := H
  have A2 := Aside0.mk A20
  clear A20
  simp only [Option.some.injEq, Prod.mk.injEq] at H
  obtain ⟨rfl, rfl⟩ := H
  go_enter Tryd.func114, Tryd.ntmps114
  go_wp2_with (first | ((with_reducible refine gate_dst (N := 1) rfl ?_); refine box_event ?hg (N := 1) ?hd (cs := #[.int .u64 a0_0, .int .u64 a0_1]) (t := 99) ?hr ?_; (case hd => rfl); (case hg => rfl); (case hr => first | (go_simp; done) | (go_simp; rfl)); intro gb174 hg w3 hbox hb; have n0_ := Aside0.mk (below_step (by repeat (first | (with_reducible first | exact HB.out | apply below_alloc | apply pw_below_drewN | apply below_drew1) | exact HB.out)) hb); have n1_ := Aside0.mk (hbox); have n2_ := Aside0.mk ((by rw [hg]; exact (below_size (by repeat (first | (with_reducible first | exact HB.out | apply below_alloc | apply pw_below_drewN | apply below_drew1) | exact HB.out))) : w.heap.size ≤ gb174)); have n3_ := Aside0.mk ((by rw [hg]; exact (below_size (by repeat (first | (with_reducible first | exact HB.out | apply below_alloc | apply pw_below_drewN | apply below_drew1) | exact HB.out))) : w.heap.size ≤ gb174)); clear HB; have HB := n0_; have BK174 := n1_; have GW174 := n2_; have GE174 := n3_; clear n0_ n1_ n2_ n3_; clear hb hbox hg) | ((with_reducible refine gate_dst (N := 2) rfl ?_); refine box_event ?hg (N := 2) ?hd (cs := #[.int .u64 0, .int .u64 0]) (t := 99) ?hr ?_; (case hd => rfl); (case hg => rfl); (case hr => first | (go_simp; done) | (go_simp; rfl)); intro gb175 hg w4 hbox hb; have n0_ := Aside0.mk (blk_below (g := gb174) (o := .cells #[.int .u64 a0_0, .int .u64 a0_1] 99 (0, 0)) (by (with_reducible repeat (first | refine blk_drewN ?_ _ | refine blk_drew ?_ | refine blk_alloc ?_ _)); exact BK174.out) hb); have n1_ := Aside0.mk (below_step (by repeat (first | (with_reducible first | exact HB.out | apply below_alloc | apply pw_below_drewN | apply below_drew1 | refine below_set ?_ GE174.out) | exact HB.out)) hb); have n2_ := Aside0.mk (hbox); have n3_ := Aside0.mk ((by rw [hg]; exact (below_size (by repeat (first | (with_reducible first | exact HB.out | apply below_alloc | apply pw_below_drewN | apply below_drew1 | refine below_set ?_ GE174.out) | exact HB.out))) : w.heap.size ≤ gb175)); have n4_ := Aside0.mk ((by rw [hg]; exact (below_size (by repeat (first | (with_reducible first | exact HB.out | apply below_alloc | apply pw_below_drewN | apply below_drew1 | refine below_set ?_ GE174.out) | exact HB.out))) : w.heap.size ≤ gb175)); have n5_ := Aside0.mk ((by rw [hg]; exact Nat.ne_of_lt (blk_lt (g := gb174) (o := .cells #[.int .u64 a0_0, .int .u64 a0_1] 99 (0, 0)) (by (with_reducible repeat (first | refine blk_drewN ?_ _ | refine blk_drew ?_ | refine blk_alloc ?_ _)); exact BK174.out)) : gb174 ≠ gb175)); have n6_ := Aside0.mk ((by rw [hg]; exact Nat.ne_of_gt (blk_lt (g := gb174) (o := .cells #[.int .u64 a0_0, .int .u64 a0_1] 99 (0, 0)) (by (with_reducible repeat (first | refine blk_drewN ?_ _ | refine blk_drew ?_ | refine blk_alloc ?_ _)); exact BK174.out)) : gb175 ≠ gb174)); clear BK174; clear HB; have BK174 := n0_; have HB := n1_; have BK175 := n2_; have GW175 := n3_; have GE175 := n4_; have NB174_175 := n5_; have NB175_174 := n6_; clear n0_ n1_ n2_ n3_ n4_ n5_ n6_; clear hb hbox hg; have hnb5 := NB174_175.out; have hnc5 := NB175_174.out; have hcz6_0 : w4.cell? ⟨gb174, 0, none⟩ = some (.int .u64 a0_0) := (blk_cell BK174.out 0).trans rfl; have hcz6_1 : w4.cell? ⟨gb174, 1, none⟩ = some (.int .u64 a0_1) := (blk_cell BK174.out 1).trans rfl; have hfz6_0 := blk_frozen BK174.out 0; have hfz6_1 := blk_frozen BK174.out 1) | ((with_reducible refine gate_callee (f := 94) rfl ?_); refine goesL_ (some 8) rfl rfl Tryd.func94 (by kernel_rfl) rfl #[.int .u64 a0_0, .int .u64 (Go.bits .xor .u64 a0_1 1)] rfl (by (try simp only [List.map_toArray, List.map_cons, List.map_nil]); first | done | rfl | (simp only [List.length_drop, List.length_take]; rfl)) ?_; (with_reducible refine (compact_NewNodeID.calls a0_0 (Go.bits .xor .u64 a0_1 1) t176 t177 _ A2.out).mono ?_); rintro e w7 ⟨rfl, hb⟩; refine ⟨_, rfl, ?_⟩; have n0_ := Aside0.mk (blk_below (g := gb174) (o := .cells #[.int .u64 a0_0, .int .u64 a0_1] 99 (0, 0)) (by (with_reducible repeat (first | refine blk_drewN ?_ _ | refine blk_drew ?_ | refine blk_alloc ?_ _)); exact BK174.out) hb); have n1_ := Aside0.mk (blk_below (g := gb175) (o := .cells #[.int .u64 0, .int .u64 0] 99 (0, 0)) (by (with_reducible repeat (first | refine blk_drewN ?_ _ | refine blk_drew ?_ | refine blk_alloc ?_ _)); exact BK175.out) hb); have n2_ := Aside0.mk (below_step (by repeat (first | (with_reducible first | exact HB.out | apply below_alloc | apply pw_below_drewN | apply below_drew1 | refine below_set ?_ GE174.out | refine below_set ?_ GE175.out) | exact HB.out)) hb); clear BK174; clear BK175; clear HB; have BK174 := n0_; have BK175 := n1_; have HB := n2_; clear n0_ n1_ n2_; (try clear hb); (try clear hb2); (try clear hk); (try clear hi); have hcz8_0 : w7.cell? ⟨gb175, 0, none⟩ = some (.int .u64 0) := (blk_cell BK175.out 0).trans rfl; have hcz8_1 : w7.cell? ⟨gb175, 1, none⟩ = some (.int .u64 0) := (blk_cell BK175.out 1).trans rfl; have hfz8_0 := blk_frozen BK175.out 0; have hfz8_1 := blk_frozen BK175.out 1))
  refine bodyPost_ret (results_cell_row rfl _ _ gb175 99 #[.int .u64 t176, .int .u64 t177] (0, 0) _ rfl (by (with_reducible repeat (first | refine blk_drewN ?_ _ | refine blk_drew ?_ | refine blk_alloc ?_ _)); refine blk_put (cs := #[.int .u64 t176, .int .u64 0]) ?_ 1 _ rfl; (with_reducible repeat (first | refine blk_drewN ?_ _ | refine blk_drew ?_ | refine blk_alloc ?_ _)); refine blk_put (cs := #[.int .u64 0, .int .u64 0]) ?_ 0 _ rfl; (with_reducible repeat (first | refine blk_drewN ?_ _ | refine blk_drew ?_ | refine blk_alloc ?_ _)); exact BK175.out) Tryd.underlying99 rfl (by kernel_rfl)) rfl ?_
  exact ⟨by first | rfl | (simp [errW_none, errW_some] <;> rfl) | (simp [*, errW_none, errW_some] <;> rfl), by repeat (first | (with_reducible first | exact HB.out | apply below_alloc | apply pw_below_drewN | apply below_drew1 | refine below_set ?_ GE174.out | refine below_set ?_ GE175.out) | exact HB.out)⟩
def proof_Nodes_skipFirst.f (l0_0 : List (S99)) (a0_1 : Int) (a0_2 : Int) (a0_3 : Int) (a0_4 : Int) : Option ((List (S99)) × Int × Int × Int × Int) := if 1 ≤ (l0_0.length : Int) then ((some (l0_0.drop (1 : Int).toNat : List (S99))).bind fun y180 => (if a0_1 < a0_2 then (some (y180, wrap64 (a0_1 - 1), wrap64 (a0_2 - 1), a0_3, a0_4)) else (some (y180, a0_1, a0_2, a0_3, a0_4)))) else (none)
set_option maxHeartbeats 8000000 in
set_option maxRecDepth 100000 in
theorem proof_Nodes_skipFirst.calls (P0_0_ : Nat → Prop) (u9000_ : Value) (l0_0 : List (S99)) (a0_1 : Int) (a0_2 : Int) (a0_3 : Int) (a0_4 : Int) (r1 : List (S99)) (r2 : Int) (r3 : Int) (r4 : Int) (r5 : Int) (w0 w : World) (hB : Below w0.heap.size w0 w) (ho0_0 : Kd.R k99 99 w w0.heap.size P0_0_ u9000_ l0_0) (h : proof_Nodes_skipFirst.f l0_0 a0_1 a0_2 a0_3 a0_4 = some (r1, r2, r3, r4, r5)) :
    Calls Tryd.prog 97 #[.agg #[u9000_, .int .i64 a0_1, .int .i64 a0_2, .int .u64 a0_3, .int .u64 a0_4]] w fun e w' => ∃ v0_ : Value, e = .returned (.agg #[v0_, .int .i64 r2, .int .i64 r3, .int .u64 r4, .int .u64 r5]) ∧ Kd.Q k99 99 w' w0.heap.size (fun k_ => (P0_0_ k_ ∨ w.heap.size ≤ k_)) v0_ r1 ∧ Below w0.heap.size w0 w' ∧ Kept w w' (fun k_ => P0_0_ k_) := by
  have hu112 := Tryd.underlying112
  have HO0_0 := Aside0.mk (show Kd.R k99 99 w w0.heap.size (fun k_ => (P0_0_ k_ ∨ w.heap.size ≤ k_)) u9000_ l0_0 from Kd.R_mono ho0_0 (fun k_ hk => (.inl hk)))
  have HK := Aside0.mk (Kept.refl w (fun k_ => P0_0_ k_))
  have HW0 := Aside0.mk hB.size
  have HB := Aside0.mk hB
  clear hB
  have H : (if 1 ≤ (l0_0.length : Int) then ((some (l0_0.drop (1 : Int).toNat : List (S99))).bind fun y180 => (if a0_1 < a0_2 then (some (y180, wrap64 (a0_1 - 1), wrap64 (a0_2 - 1), a0_3, a0_4)) else (some (y180, a0_1, a0_2, a0_3, a0_4)))) else (none)) = some (r1, r2, r3, r4, r5) := h
  clear h
  by_cases c2 : 1 ≤ (l0_0.length : Int)
  · rw [if_pos c2] at H
    have c2b0 := eq_true c2
    have c2b1 : decide (1 ≤ (l0_0.length : Int)) = true := decide_eq_true c2
    clear c2
    obtain ⟨y180, hy180⟩ : ∃ y_ : List (S99), y_ = (l0_0.drop (1 : Int).toNat) := ⟨_, rfl⟩
    replace H : (if a0_1 < a0_2 then (some (y180, wrap64 (a0_1 - 1), wrap64 (a0_2 - 1), a0_3, a0_4)) else (some (y180, a0_1, a0_2, a0_3, a0_4))) = some (r1, r2, r3, r4, r5) := by first | (rw [hy180]; with_reducible exact H) | (have H2_ := (Option.bind_some _ _).symm.trans H; rw [hy180]; with_reducible exact H2_) | (have H2_ := (Option.bind_some _ _).symm.trans H; with_reducible exact H2_) | with_reducible exact H | (rw [hy180]; exact H) | exact H
    have Ny180 := Aside0.mk hy180
    clear hy180
    by_cases c3 : a0_1 < a0_2
    · rw [if_pos c3] at H
      have c3b0 : decide (a0_1 < a0_2) = true := decide_eq_true c3
      clear c3
      simp only [Option.some.injEq, Prod.mk.injEq] at H
      obtain ⟨rfl, rfl, rfl, rfl, rfl⟩ := H
      obtain ⟨Ao4, co4, eo4⟩ := Kd.R_slice HO0_0.out
      subst eo4
      go_enter Tryd.func97, Tryd.ntmps97
      go_wp2_with (first | ((with_reducible refine gate_dst (N := 1) rfl ?_); refine box_event ?hg (N := 1) ?hd (cs := #[.slice Ao4 l0_0.length co4, .int .i64 a0_1, .int .i64 a0_2, .int .u64 a0_3, .int .u64 a0_4]) (t := 112) ?hr ?_; (case hd => rfl); (case hg => rfl); (case hr => first | (go_simp; done) | (go_simp; rfl)); intro gb178 hg w5 hbox hb; have n0_ := Aside0.mk (Kd.R_below (by (with_reducible repeat (first | apply Kd.R_alloc | apply Kd.R_drewN | apply Kd.R_drew)); exact HO0_0.out) hb); have n1_ := Aside0.mk (Kept.below (S := (fun k_ => P0_0_ k_)) (by repeat (first | (with_reducible first | exact HK.out | apply Kept.alloc | apply Kept.drewN | apply Kept.drew) | exact HK.out)) hb); have n2_ := Aside0.mk (below_step (by repeat (first | (with_reducible first | exact HB.out | apply below_alloc | apply pw_below_drewN | apply below_drew1) | exact HB.out)) hb); have n3_ := Aside0.mk (hbox); have n4_ := Aside0.mk ((by rw [hg]; exact (by first | exact HK.out.1 | exact (show Kept w _ (fun k_ => P0_0_ k_) from by repeat (first | (with_reducible first | exact HK.out | apply Kept.alloc | apply Kept.drewN | apply Kept.drew) | exact HK.out)).1) : w.heap.size ≤ gb178)); have n5_ := Aside0.mk ((by rw [hg]; exact (below_size (by repeat (first | (with_reducible first | exact HB.out | apply below_alloc | apply pw_below_drewN | apply below_drew1) | exact HB.out))) : w0.heap.size ≤ gb178)); clear HO0_0; clear HK; clear HB; have HO0_0 := n0_; have HK := n1_; have HB := n2_; have BK178 := n3_; have GW178 := n4_; have GE178 := n5_; clear n0_ n1_ n2_ n3_ n4_ n5_; clear hb hbox hg) | ((with_reducible refine gate_dst (N := 2) rfl ?_); refine box_event ?hg (N := 2) ?hd (cs := #[.slice none 0 0, .int .i64 0, .int .i64 0, .int .u64 0, .int .u64 0]) (t := 112) ?hr ?_; (case hd => rfl); (case hg => rfl); (case hr => first | (go_simp; done) | (go_simp; rfl)); intro gb179 hg w6 hbox hb; have n0_ := Aside0.mk (Kd.R_below (by (with_reducible repeat (first | apply Kd.R_alloc | apply Kd.R_drewN | apply Kd.R_drew)); exact HO0_0.out) hb); have n1_ := Aside0.mk (blk_below (g := gb178) (o := .cells #[.slice Ao4 l0_0.length co4, .int .i64 a0_1, .int .i64 a0_2, .int .u64 a0_3, .int .u64 a0_4] 112 (0, 0)) (by (with_reducible repeat (first | refine blk_drewN ?_ _ | refine blk_drew ?_ | refine blk_alloc ?_ _)); exact BK178.out) hb); have n2_ := Aside0.mk (Kept.below (S := (fun k_ => P0_0_ k_)) (by repeat (first | (with_reducible first | exact HK.out | apply Kept.alloc | apply Kept.drewN | apply Kept.drew | refine Kept.setCell ?_ (.inr GW178.out) _) | exact HK.out)) hb); have n3_ := Aside0.mk (below_step (by repeat (first | (with_reducible first | exact HB.out | apply below_alloc | apply pw_below_drewN | apply below_drew1 | refine below_set ?_ GE178.out) | exact HB.out)) hb); have n4_ := Aside0.mk (hbox); have n5_ := Aside0.mk ((by rw [hg]; exact (by first | exact HK.out.1 | exact (show Kept w _ (fun k_ => P0_0_ k_) from by repeat (first | (with_reducible first | exact HK.out | apply Kept.alloc | apply Kept.drewN | apply Kept.drew | refine Kept.setCell ?_ (.inr GW178.out) _) | exact HK.out)).1) : w.heap.size ≤ gb179)); have n6_ := Aside0.mk ((by rw [hg]; exact (below_size (by repeat (first | (with_reducible first | exact HB.out | apply below_alloc | apply pw_below_drewN | apply below_drew1 | refine below_set ?_ GE178.out) | exact HB.out))) : w0.heap.size ≤ gb179)); have n7_ := Aside0.mk ((by rw [hg]; exact Nat.ne_of_lt (blk_lt (g := gb178) (o := .cells #[.slice Ao4 l0_0.length co4, .int .i64 a0_1, .int .i64 a0_2, .int .u64 a0_3, .int .u64 a0_4] 112 (0, 0)) (by (with_reducible repeat (first | refine blk_drewN ?_ _ | refine blk_drew ?_ | refine blk_alloc ?_ _)); exact BK178.out)) : gb178 ≠ gb179)); have n8_ := Aside0.mk ((by rw [hg]; exact Nat.ne_of_gt (blk_lt (g := gb178) (o := .cells #[.slice Ao4 l0_0.length co4, .int .i64 a0_1, .int .i64 a0_2, .int .u64 a0_3, .int .u64 a0_4] 112 (0, 0)) (by (with_reducible repeat (first | refine blk_drewN ?_ _ | refine blk_drew ?_ | refine blk_alloc ?_ _)); exact BK178.out)) : gb179 ≠ gb178)); clear HO0_0; clear BK178; clear HK; clear HB; have HO0_0 := n0_; have BK178 := n1_; have HK := n2_; have HB := n3_; have BK179 := n4_; have GW179 := n5_; have GE179 := n6_; have NB178_179 := n7_; have NB179_178 := n8_; clear n0_ n1_ n2_ n3_ n4_ n5_ n6_ n7_ n8_; clear hb hbox hg; have hnb7 := NB178_179.out; have hnc7 := NB179_178.out; have hcz8_0 : w6.cell? ⟨gb178, 0, none⟩ = some (.slice Ao4 l0_0.length co4) := (blk_cell BK178.out 0).trans rfl; have hcz8_1 : w6.cell? ⟨gb178, 1, none⟩ = some (.int .i64 a0_1) := (blk_cell BK178.out 1).trans rfl; have hcz8_2 : w6.cell? ⟨gb178, 2, none⟩ = some (.int .i64 a0_2) := (blk_cell BK178.out 2).trans rfl; have hcz8_3 : w6.cell? ⟨gb178, 3, none⟩ = some (.int .u64 a0_3) := (blk_cell BK178.out 3).trans rfl; have hcz8_4 : w6.cell? ⟨gb178, 4, none⟩ = some (.int .u64 a0_4) := (blk_cell BK178.out 4).trans rfl; have hfz8_0 := blk_frozen BK178.out 0; have hfz8_1 := blk_frozen BK178.out 1; have hfz8_2 := blk_frozen BK178.out 2; have hfz8_3 := blk_frozen BK178.out 3; have hfz8_4 := blk_frozen BK178.out 4; have q9 : (1 : Int) ≤ ((l0_0.length : Int) : Int) := of_decide_eq_true (by first | (with_reducible assumption) | assumption); obtain ⟨i09, hi09, _, hsz9, _⟩ := info_parts info99; have hcut9 := cut_from (P := Tryd.prog) 110 99 .i64 Tryd.underlying110 hi09 2 hsz9 Ao4 l0_0.length co4 1 (by omega) q9; have hr9 := Kd.Q_drop (k := (1 : Int).toNat) (Kd.Q_of_R HO0_0.out) (by omega); obtain ⟨A9, hA9⟩ : ∃ A1_, A1_ = (if co4 = (1 : Int).toNat then Ao4 else (Ao4 : Option Addr).map (·.add ((1 : Int).toNat * 2))) := ⟨_, rfl⟩; obtain ⟨c9, hc9⟩ : ∃ c1_, c1_ = co4 - (1 : Int).toNat := ⟨_, rfl⟩; have hy9 : y180.length = l0_0.length - (1 : Int).toNat := (by rw [Ny180.out, List.length_drop]); rw [← Ny180.out] at hr9; rw [← hy9, ← hA9, ← hc9] at hcut9; replace hr9 : Kd.Q k99 99 w6 w0.heap.size (fun k_ => (P0_0_ k_ ∨ w.heap.size ≤ k_)) (.slice A9 y180.length c9) y180 := (by rw [hA9, hc9, hy9]; exact hr9); have HE9 : Aside0 ((Value.slice A9 y180.length c9).ownBlock = (.slice Ao4 l0_0.length co4 : Value).ownBlock) := ⟨by rw [hA9]; split <;> (cases (Ao4 : Option Addr) <;> rfl)⟩; clear hy9 hi09 hsz9 HO0_0 hA9 hc9; have HO182 := Aside0.mk hr9; clear hr9; replace q9 := eq_true q9; have hcz10_0 : w6.cell? ⟨gb179, 0, none⟩ = some (.slice none 0 0) := (blk_cell BK179.out 0).trans rfl; have hcz10_1 : w6.cell? ⟨gb179, 1, none⟩ = some (.int .i64 0) := (blk_cell BK179.out 1).trans rfl; have hcz10_2 : w6.cell? ⟨gb179, 2, none⟩ = some (.int .i64 0) := (blk_cell BK179.out 2).trans rfl; have hcz10_3 : w6.cell? ⟨gb179, 3, none⟩ = some (.int .u64 0) := (blk_cell BK179.out 3).trans rfl; have hcz10_4 : w6.cell? ⟨gb179, 4, none⟩ = some (.int .u64 0) := (blk_cell BK179.out 4).trans rfl; have hfz10_0 := blk_frozen BK179.out 0; have hfz10_1 := blk_frozen BK179.out 1; have hfz10_2 := blk_frozen BK179.out 2; have hfz10_3 := blk_frozen BK179.out 3; have hfz10_4 := blk_frozen BK179.out 4))
      refine bodyPost_ret (results_cell_row rfl _ _ gb179 112 #[.slice A9 y180.length c9, .int .i64 (wrap64 (a0_1 - 1)), .int .i64 (wrap64 (a0_2 - 1)), .int .u64 a0_3, .int .u64 a0_4] (0, 0) _ rfl (by (with_reducible repeat (first | refine blk_drewN ?_ _ | refine blk_drew ?_ | refine blk_alloc ?_ _)); refine blk_put (cs := #[.slice A9 y180.length c9, .int .i64 (wrap64 (a0_1 - 1)), .int .i64 (wrap64 (a0_2 - 1)), .int .u64 a0_3, .int .u64 0]) ?_ 4 _ rfl; (with_reducible repeat (first | refine blk_drewN ?_ _ | refine blk_drew ?_ | refine blk_alloc ?_ _)); refine blk_put (cs := #[.slice A9 y180.length c9, .int .i64 (wrap64 (a0_1 - 1)), .int .i64 (wrap64 (a0_2 - 1)), .int .u64 0, .int .u64 0]) ?_ 3 _ rfl; (with_reducible repeat (first | refine blk_drewN ?_ _ | refine blk_drew ?_ | refine blk_alloc ?_ _)); refine blk_put (cs := #[.slice A9 y180.length c9, .int .i64 (wrap64 (a0_1 - 1)), .int .i64 0, .int .u64 0, .int .u64 0]) ?_ 2 _ rfl; (with_reducible repeat (first | refine blk_drewN ?_ _ | refine blk_drew ?_ | refine blk_alloc ?_ _)); refine blk_put (cs := #[.slice A9 y180.length c9, .int .i64 0, .int .i64 0, .int .u64 0, .int .u64 0]) ?_ 1 _ rfl; (with_reducible repeat (first | refine blk_drewN ?_ _ | refine blk_drew ?_ | refine blk_alloc ?_ _)); refine blk_put (cs := #[.slice none 0 0, .int .i64 0, .int .i64 0, .int .u64 0, .int .u64 0]) ?_ 0 _ rfl; (with_reducible repeat (first | refine blk_drewN ?_ _ | refine blk_drew ?_ | refine blk_alloc ?_ _)); refine blk_far ?_ NB179_178.out _; (with_reducible repeat (first | refine blk_drewN ?_ _ | refine blk_drew ?_ | refine blk_alloc ?_ _)); refine blk_far ?_ NB179_178.out _; (with_reducible repeat (first | refine blk_drewN ?_ _ | refine blk_drew ?_ | refine blk_alloc ?_ _)); refine blk_far ?_ NB179_178.out _; (with_reducible repeat (first | refine blk_drewN ?_ _ | refine blk_drew ?_ | refine blk_alloc ?_ _)); exact BK179.out) Tryd.underlying112 rfl (by kernel_rfl)) rfl ?_
      exact ⟨_, by first | rfl | (simp [errW_none, errW_some] <;> rfl) | (simp [*, errW_none, errW_some] <;> rfl), by (with_reducible repeat (first | apply Kd.Q_alloc | apply Kd.Q_drewN | apply Kd.Q_drew)); exact Kd.Q_mono (Kd.Q_far (p := ⟨gb179, 4, none⟩) (Kd.Q_far (p := ⟨gb179, 3, none⟩) (Kd.Q_far (p := ⟨gb179, 2, none⟩) (Kd.Q_far (p := ⟨gb179, 1, none⟩) (Kd.Q_far (p := ⟨gb179, 0, none⟩) (Kd.Q_far (p := ⟨gb178, 2, none⟩) (Kd.Q_far (p := ⟨gb178, 1, none⟩) (Kd.Q_far (p := ⟨gb178, 0, none⟩) (Kd.Q_types (Kd.Q_types HO182.out BK178.out (by decide)) BK179.out (by decide)) (fun _ hk => hk.1.2) (.slice A9 y180.length c9)) (fun _ hk => hk.1.2) (.int .i64 (wrap64 (a0_1 - 1)))) (fun _ hk => hk.1.2) (.int .i64 (wrap64 (a0_2 - 1)))) (fun _ hk => hk.2) (.slice A9 y180.length c9)) (fun _ hk => hk.2) (.int .i64 (wrap64 (a0_1 - 1)))) (fun _ hk => hk.2) (.int .i64 (wrap64 (a0_2 - 1)))) (fun _ hk => hk.2) (.int .u64 a0_3)) (fun _ hk => hk.2) (.int .u64 a0_4)) (fun _ hk => hk.1.1), by repeat (first | (with_reducible first | exact HB.out | apply below_alloc | apply pw_below_drewN | apply below_drew1 | refine below_set ?_ GE178.out | refine below_set ?_ GE179.out) | exact HB.out), by repeat (first | (with_reducible first | exact HK.out | apply Kept.alloc | apply Kept.drewN | apply Kept.drew | refine Kept.setCell ?_ (.inr GW178.out) _ | refine Kept.setCell ?_ (.inr GW179.out) _) | exact HK.out)⟩
    · rw [if_neg c3] at H
      have c3b0 : decide (a0_1 < a0_2) = false := decide_eq_false c3
      clear c3
      simp only [Option.some.injEq, Prod.mk.injEq] at H
      obtain ⟨rfl, rfl, rfl, rfl, rfl⟩ := H
      obtain ⟨Ao11, co11, eo11⟩ := Kd.R_slice HO0_0.out
      subst eo11
      go_enter Tryd.func97, Tryd.ntmps97
      go_wp2_with (first | ((with_reducible refine gate_dst (N := 1) rfl ?_); refine box_event ?hg (N := 1) ?hd (cs := #[.slice Ao11 l0_0.length co11, .int .i64 a0_1, .int .i64 a0_2, .int .u64 a0_3, .int .u64 a0_4]) (t := 112) ?hr ?_; (case hd => rfl); (case hg => rfl); (case hr => first | (go_simp; done) | (go_simp; rfl)); intro gb178 hg w12 hbox hb; have n0_ := Aside0.mk (Kd.R_below (by (with_reducible repeat (first | apply Kd.R_alloc | apply Kd.R_drewN | apply Kd.R_drew)); exact HO0_0.out) hb); have n1_ := Aside0.mk (Kept.below (S := (fun k_ => P0_0_ k_)) (by repeat (first | (with_reducible first | exact HK.out | apply Kept.alloc | apply Kept.drewN | apply Kept.drew) | exact HK.out)) hb); have n2_ := Aside0.mk (below_step (by repeat (first | (with_reducible first | exact HB.out | apply below_alloc | apply pw_below_drewN | apply below_drew1) | exact HB.out)) hb); have n3_ := Aside0.mk (hbox); have n4_ := Aside0.mk ((by rw [hg]; exact (by first | exact HK.out.1 | exact (show Kept w _ (fun k_ => P0_0_ k_) from by repeat (first | (with_reducible first | exact HK.out | apply Kept.alloc | apply Kept.drewN | apply Kept.drew) | exact HK.out)).1) : w.heap.size ≤ gb178)); have n5_ := Aside0.mk ((by rw [hg]; exact (below_size (by repeat (first | (with_reducible first | exact HB.out | apply below_alloc | apply pw_below_drewN | apply below_drew1) | exact HB.out))) : w0.heap.size ≤ gb178)); clear HO0_0; clear HK; clear HB; have HO0_0 := n0_; have HK := n1_; have HB := n2_; have BK178 := n3_; have GW178 := n4_; have GE178 := n5_; clear n0_ n1_ n2_ n3_ n4_ n5_; clear hb hbox hg) | ((with_reducible refine gate_dst (N := 2) rfl ?_); refine box_event ?hg (N := 2) ?hd (cs := #[.slice none 0 0, .int .i64 0, .int .i64 0, .int .u64 0, .int .u64 0]) (t := 112) ?hr ?_; (case hd => rfl); (case hg => rfl); (case hr => first | (go_simp; done) | (go_simp; rfl)); intro gb179 hg w13 hbox hb; have n0_ := Aside0.mk (Kd.R_below (by (with_reducible repeat (first | apply Kd.R_alloc | apply Kd.R_drewN | apply Kd.R_drew)); exact HO0_0.out) hb); have n1_ := Aside0.mk (blk_below (g := gb178) (o := .cells #[.slice Ao11 l0_0.length co11, .int .i64 a0_1, .int .i64 a0_2, .int .u64 a0_3, .int .u64 a0_4] 112 (0, 0)) (by (with_reducible repeat (first | refine blk_drewN ?_ _ | refine blk_drew ?_ | refine blk_alloc ?_ _)); exact BK178.out) hb); have n2_ := Aside0.mk (Kept.below (S := (fun k_ => P0_0_ k_)) (by repeat (first | (with_reducible first | exact HK.out | apply Kept.alloc | apply Kept.drewN | apply Kept.drew | refine Kept.setCell ?_ (.inr GW178.out) _) | exact HK.out)) hb); have n3_ := Aside0.mk (below_step (by repeat (first | (with_reducible first | exact HB.out | apply below_alloc | apply pw_below_drewN | apply below_drew1 | refine below_set ?_ GE178.out) | exact HB.out)) hb); have n4_ := Aside0.mk (hbox); have n5_ := Aside0.mk ((by rw [hg]; exact (by first | exact HK.out.1 | exact (show Kept w _ (fun k_ => P0_0_ k_) from by repeat (first | (with_reducible first | exact HK.out | apply Kept.alloc | apply Kept.drewN | apply Kept.drew | refine Kept.setCell ?_ (.inr GW178.out) _) | exact HK.out)).1) : w.heap.size ≤ gb179)); have n6_ := Aside0.mk ((by rw [hg]; exact (below_size (by repeat (first | (with_reducible first | exact HB.out | apply below_alloc | apply pw_below_drewN | apply below_drew1 | refine below_set ?_ GE178.out) | exact HB.out))) : w0.heap.size ≤ gb179)); have n7_ := Aside0.mk ((by rw [hg]; exact Nat.ne_of_lt (blk_lt (g := gb178) (o := .cells #[.slice Ao11 l0_0.length co11, .int .i64 a0_1, .int .i64 a0_2, .int .u64 a0_3, .int .u64 a0_4] 112 (0, 0)) (by (with_reducible repeat (first | refine blk_drewN ?_ _ | refine blk_drew ?_ | refine blk_alloc ?_ _)); exact BK178.out)) : gb178 ≠ gb179)); have n8_ := Aside0.mk ((by rw [hg]; exact Nat.ne_of_gt (blk_lt (g := gb178) (o := .cells #[.slice Ao11 l0_0.length co11, .int .i64 a0_1, .int .i64 a0_2, .int .u64 a0_3, .int .u64 a0_4] 112 (0, 0)) (by (with_reducible repeat (first | refine blk_drewN ?_ _ | refine blk_drew ?_ | refine blk_alloc ?_ _)); exact BK178.out)) : gb179 ≠ gb178)); clear HO0_0; clear BK178; clear HK; clear HB; have HO0_0 := n0_; have BK178 := n1_; have HK := n2_; have HB := n3_; have BK179 := n4_; have GW179 := n5_; have GE179 := n6_; have NB178_179 := n7_; have NB179_178 := n8_; clear n0_ n1_ n2_ n3_ n4_ n5_ n6_ n7_ n8_; clear hb hbox hg; have hnb14 := NB178_179.out; have hnc14 := NB179_178.out; have hcz15_0 : w13.cell? ⟨gb178, 0, none⟩ = some (.slice Ao11 l0_0.length co11) := (blk_cell BK178.out 0).trans rfl; have hcz15_1 : w13.cell? ⟨gb178, 1, none⟩ = some (.int .i64 a0_1) := (blk_cell BK178.out 1).trans rfl; have hcz15_2 : w13.cell? ⟨gb178, 2, none⟩ = some (.int .i64 a0_2) := (blk_cell BK178.out 2).trans rfl; have hcz15_3 : w13.cell? ⟨gb178, 3, none⟩ = some (.int .u64 a0_3) := (blk_cell BK178.out 3).trans rfl; have hcz15_4 : w13.cell? ⟨gb178, 4, none⟩ = some (.int .u64 a0_4) := (blk_cell BK178.out 4).trans rfl; have hfz15_0 := blk_frozen BK178.out 0; have hfz15_1 := blk_frozen BK178.out 1; have hfz15_2 := blk_frozen BK178.out 2; have hfz15_3 := blk_frozen BK178.out 3; have hfz15_4 := blk_frozen BK178.out 4; have q16 : (1 : Int) ≤ ((l0_0.length : Int) : Int) := of_decide_eq_true (by first | (with_reducible assumption) | assumption); obtain ⟨i016, hi016, _, hsz16, _⟩ := info_parts info99; have hcut16 := cut_from (P := Tryd.prog) 110 99 .i64 Tryd.underlying110 hi016 2 hsz16 Ao11 l0_0.length co11 1 (by omega) q16; have hr16 := Kd.Q_drop (k := (1 : Int).toNat) (Kd.Q_of_R HO0_0.out) (by omega); obtain ⟨A16, hA16⟩ : ∃ A1_, A1_ = (if co11 = (1 : Int).toNat then Ao11 else (Ao11 : Option Addr).map (·.add ((1 : Int).toNat * 2))) := ⟨_, rfl⟩; obtain ⟨c16, hc16⟩ : ∃ c1_, c1_ = co11 - (1 : Int).toNat := ⟨_, rfl⟩; have hy16 : y180.length = l0_0.length - (1 : Int).toNat := (by rw [Ny180.out, List.length_drop]); rw [← Ny180.out] at hr16; rw [← hy16, ← hA16, ← hc16] at hcut16; replace hr16 : Kd.Q k99 99 w13 w0.heap.size (fun k_ => (P0_0_ k_ ∨ w.heap.size ≤ k_)) (.slice A16 y180.length c16) y180 := (by rw [hA16, hc16, hy16]; exact hr16); have HE16 : Aside0 ((Value.slice A16 y180.length c16).ownBlock = (.slice Ao11 l0_0.length co11 : Value).ownBlock) := ⟨by rw [hA16]; split <;> (cases (Ao11 : Option Addr) <;> rfl)⟩; clear hy16 hi016 hsz16 HO0_0 hA16 hc16; have HO182 := Aside0.mk hr16; clear hr16; replace q16 := eq_true q16; have hcz17_0 : w13.cell? ⟨gb179, 0, none⟩ = some (.slice none 0 0) := (blk_cell BK179.out 0).trans rfl; have hcz17_1 : w13.cell? ⟨gb179, 1, none⟩ = some (.int .i64 0) := (blk_cell BK179.out 1).trans rfl; have hcz17_2 : w13.cell? ⟨gb179, 2, none⟩ = some (.int .i64 0) := (blk_cell BK179.out 2).trans rfl; have hcz17_3 : w13.cell? ⟨gb179, 3, none⟩ = some (.int .u64 0) := (blk_cell BK179.out 3).trans rfl; have hcz17_4 : w13.cell? ⟨gb179, 4, none⟩ = some (.int .u64 0) := (blk_cell BK179.out 4).trans rfl; have hfz17_0 := blk_frozen BK179.out 0; have hfz17_1 := blk_frozen BK179.out 1; have hfz17_2 := blk_frozen BK179.out 2; have hfz17_3 := blk_frozen BK179.out 3; have hfz17_4 := blk_frozen BK179.out 4))
      refine bodyPost_ret (results_cell_row rfl _ _ gb179 112 #[.slice A16 y180.length c16, .int .i64 a0_1, .int .i64 a0_2, .int .u64 a0_3, .int .u64 a0_4] (0, 0) _ rfl (by (with_reducible repeat (first | refine blk_drewN ?_ _ | refine blk_drew ?_ | refine blk_alloc ?_ _)); refine blk_put (cs := #[.slice A16 y180.length c16, .int .i64 a0_1, .int .i64 a0_2, .int .u64 a0_3, .int .u64 0]) ?_ 4 _ rfl; (with_reducible repeat (first | refine blk_drewN ?_ _ | refine blk_drew ?_ | refine blk_alloc ?_ _)); refine blk_put (cs := #[.slice A16 y180.length c16, .int .i64 a0_1, .int .i64 a0_2, .int .u64 0, .int .u64 0]) ?_ 3 _ rfl; (with_reducible repeat (first | refine blk_drewN ?_ _ | refine blk_drew ?_ | refine blk_alloc ?_ _)); refine blk_put (cs := #[.slice A16 y180.length c16, .int .i64 a0_1, .int .i64 0, .int .u64 0, .int .u64 0]) ?_ 2 _ rfl; (with_reducible repeat (first | refine blk_drewN ?_ _ | refine blk_drew ?_ | refine blk_alloc ?_ _)); refine blk_put (cs := #[.slice A16 y180.length c16, .int .i64 0, .int .i64 0, .int .u64 0, .int .u64 0]) ?_ 1 _ rfl; (with_reducible repeat (first | refine blk_drewN ?_ _ | refine blk_drew ?_ | refine blk_alloc ?_ _)); refine blk_put (cs := #[.slice none 0 0, .int .i64 0, .int .i64 0, .int .u64 0, .int .u64 0]) ?_ 0 _ rfl; (with_reducible repeat (first | refine blk_drewN ?_ _ | refine blk_drew ?_ | refine blk_alloc ?_ _)); refine blk_far ?_ NB179_178.out _; (with_reducible repeat (first | refine blk_drewN ?_ _ | refine blk_drew ?_ | refine blk_alloc ?_ _)); exact BK179.out) Tryd.underlying112 rfl (by kernel_rfl)) rfl ?_
      exact ⟨_, by first | rfl | (simp [errW_none, errW_some] <;> rfl) | (simp [*, errW_none, errW_some] <;> rfl), by (with_reducible repeat (first | apply Kd.Q_alloc | apply Kd.Q_drewN | apply Kd.Q_drew)); exact Kd.Q_mono (Kd.Q_far (p := ⟨gb179, 4, none⟩) (Kd.Q_far (p := ⟨gb179, 3, none⟩) (Kd.Q_far (p := ⟨gb179, 2, none⟩) (Kd.Q_far (p := ⟨gb179, 1, none⟩) (Kd.Q_far (p := ⟨gb179, 0, none⟩) (Kd.Q_far (p := ⟨gb178, 0, none⟩) (Kd.Q_types (Kd.Q_types HO182.out BK178.out (by decide)) BK179.out (by decide)) (fun _ hk => hk.1.2) (.slice A16 y180.length c16)) (fun _ hk => hk.2) (.slice A16 y180.length c16)) (fun _ hk => hk.2) (.int .i64 a0_1)) (fun _ hk => hk.2) (.int .i64 a0_2)) (fun _ hk => hk.2) (.int .u64 a0_3)) (fun _ hk => hk.2) (.int .u64 a0_4)) (fun _ hk => hk.1.1), by repeat (first | (with_reducible first | exact HB.out | apply below_alloc | apply pw_below_drewN | apply below_drew1 | refine below_set ?_ GE178.out | refine below_set ?_ GE179.out) | exact HB.out), by repeat (first | (with_reducible first | exact HK.out | apply Kept.alloc | apply Kept.drewN | apply Kept.drew | refine Kept.setCell ?_ (.inr GW178.out) _ | refine Kept.setCell ?_ (.inr GW179.out) _) | exact HK.out)⟩
  · rw [if_neg c2] at H
    exact absurd H (by simp)
def impl_fromNode.f (a0_0 : Int) (a0_1 : Int) : Option (Int × Int) := some (a0_0, a0_1)
def proof_Nodes_Ephem.f (l0_0 : List (S99)) (a0_1 : Int) (a0_2 : Int) (a0_3 : Int) (a0_4 : Int) : Option (Int × Int × Int × Int) := some (a0_3, a0_4, a0_1, a0_2)
def impl_fromNodes.l0 : Nat → List (S49) → List (S99) → Int → Int → Option ((List (S49)))
  | 0, _, _, _, _ => none
  | k + 1, x3, x6, x7, x8 => if x8 < x7 then (if 0 ≤ x8 then (if x8 < (x6.length : Int) then ((impl_fromNode.f ((rd_T99 x6 x8).f0) ((rd_T99 x6 x8).f1)).bind fun bt189 => (if x3.length < 8796093022208 then (impl_fromNodes.l0 k (x3 ++ [(⟨bt189.1, bt189.2⟩ : S49)]) x6 x7 (wrap64 (x8 + 1))) else (none))) else (none)) else (none)) else (some x3)
def impl_fromNodes.f (k : Nat) (l0 : List (S99)) : Option ((List (S49))) := impl_fromNodes.l0 k ([] : List (S49)) l0 (l0.length : Int) 0
theorem impl_fromNodes.mono_l : ∀ k, (∀ y0 y1 y2 y3, LeO (impl_fromNodes.l0 k y0 y1 y2 y3) (impl_fromNodes.l0 (k + 1) y0 y1 y2 y3))
  | 0 => fun _ _ _ _ r h => by simp [impl_fromNodes.l0] at h
  | k + 1 => by
    have ih0 := impl_fromNodes.mono_l k
    · intro y0 y1 y2 y3
      unfold impl_fromNodes.l0
      repeat' first
      | (with_reducible exact ih0 _ _ _ _)
      | (with_reducible exact LeO.refl _)
      | (with_reducible exact LeO.none _)
      | (with_reducible refine LeO.ite ?_ ?_)
      | (with_reducible refine LeO.bind ?_ (fun _ => ?_))
      | exact ih0 _ _ _ _
      | exact LeO.none _
      | refine LeO.ite ?_ ?_
      | refine LeO.bind ?_ (fun _ => ?_)
theorem impl_fromNodes.mono : ∀ a0 k, LeO (impl_fromNodes.f k a0) (impl_fromNodes.f (k + 1) a0) := by
  intro a0 k
  have ih0 := impl_fromNodes.mono_l k
  unfold impl_fromNodes.f
  repeat' first
      | (with_reducible exact ih0 _ _ _ _)
      | (with_reducible exact LeO.refl _)
      | (with_reducible exact LeO.none _)
      | (with_reducible refine LeO.ite ?_ ?_)
      | (with_reducible refine LeO.bind ?_ (fun _ => ?_))
      | exact ih0 _ _ _ _
      | exact LeO.none _
      | refine LeO.ite ?_ ?_
      | refine LeO.bind ?_ (fun _ => ?_)
def impl_fromProof.f (k : Nat) (l0_0 : List (S99)) (a0_1 : Int) (a0_2 : Int) (a0_3 : Int) (a0_4 : Int) : Option ((List (S49)) × Int × Int × Int × Int) := (proof_Nodes_Ephem.f l0_0 a0_1 a0_2 a0_3 a0_4).bind fun bt196 => ((impl_fromNodes.f k l0_0).bind fun t201 => ((impl_fromNode.f bt196.1 bt196.2.1).bind fun bt204 => (some (t201, bt204.1, bt204.2, bt196.2.2.1, bt196.2.2.2))))
theorem impl_fromProof.mono : ∀ a0 a1 a2 a3 a4 k, LeO (impl_fromProof.f k a0 a1 a2 a3 a4) (impl_fromProof.f (k + 1) a0 a1 a2 a3 a4) := by
  intro a0 a1 a2 a3 a4 k
  unfold impl_fromProof.f
  repeat' first
      | (with_reducible exact impl_fromNodes.mono _ _)
      | (with_reducible exact LeO.refl _)
      | (with_reducible exact LeO.none _)
      | (with_reducible refine LeO.ite ?_ ?_)
      | (with_reducible refine LeO.bind ?_ (fun _ => ?_))
      | exact impl_fromNodes.mono _ _
      | exact LeO.none _
      | refine LeO.ite ?_ ?_
      | refine LeO.bind ?_ (fun _ => ?_)
def impl_fromProof.B2 : List Nat := [0, 1, 3, 0, 15, 0, 0, 127, 255]
def proof_innerProofSize.f (k : Nat) (a0 : Int) (a1 : Int) : Option (Int) := (bits_Len64.f k (Go.bits .xor .u64 a0 (IntKind.u64.wrap (a1 - 1)))).bind fun t206 => (some t206)
theorem proof_innerProofSize.mono : ∀ a0 a1 k, LeO (proof_innerProofSize.f k a0 a1) (proof_innerProofSize.f (k + 1) a0 a1) := by
  intro a0 a1 k
  unfold proof_innerProofSize.f
  repeat' first
      | (with_reducible exact bits_Len64.mono _ _)
      | (with_reducible exact LeO.refl _)
      | (with_reducible exact LeO.none _)
      | (with_reducible refine LeO.ite ?_ ?_)
      | (with_reducible refine LeO.bind ?_ (fun _ => ?_))
      | exact bits_Len64.mono _ _
      | exact LeO.none _
      | refine LeO.ite ?_ ?_
      | refine LeO.bind ?_ (fun _ => ?_)
set_option maxHeartbeats 8000000 in
set_option maxRecDepth 100000 in
theorem proof_innerProofSize.calls (k : Nat) (a0 : Int) (a1 : Int) (r : Int) (w : World) (h : proof_innerProofSize.f k a0 a1 = some r) :
    Calls Tryd.prog 117 #[.int .u64 a0, .int .u64 a1] w fun e w' => e = .returned (.int .i64 r) ∧ Drawn0 w w' := by
  have H : ((bits_Len64.f k (Go.bits .xor .u64 a0 (IntKind.u64.wrap (a1 - 1)))).bind fun t206 => (some t206)) = some r := h
  clear h
  replace H := Option.bind_eq_some_iff.mp H
  obtain ⟨t206, A30, H⟩ := H
  replace H : (some t206) = some r := H
  have A3 := Aside0.mk A30
  clear A30
  obtain rfl := Option.some.inj H
  go_enter Tryd.func117, Tryd.ntmps117
  go_wp2_with (first | ((with_reducible refine gate_callee (f := 109) rfl ?_); refine goesL_ (some 9) rfl rfl Tryd.func109 (by kernel_rfl) rfl #[.int .u64 (Go.bits .xor .u64 a0 (IntKind.u64.wrap (a1 - 1)))] rfl (by (try simp only [List.map_toArray, List.map_cons, List.map_nil]); first | done | rfl | (simp only [List.length_drop, List.length_take]; rfl)) ?_; (with_reducible refine (bits_Len64.calls k (Go.bits .xor .u64 a0 (IntKind.u64.wrap (a1 - 1))) t206 _ A3.out).mono ?_); rintro e w' ⟨rfl, ⟨nd, rfl⟩⟩; refine ⟨_, rfl, ?_⟩))
  go_ret
  exact ⟨by first | rfl | (simp; done) | (simp [*]; done), by repeat (first | exact Drawn0.refl _ | apply Drawn0.step)⟩
end Go.Proofs.YtielnphmcaecdaaDoor.PAll
