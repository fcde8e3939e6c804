-- Written by a program of this session (wip/tools)
import Derived.Test.YtladpdeneiaaeaaDoorPAllx0
import Derived.Test.YtladpdeneiaaeaaDoorExtGal
namespace Go.Proofs.YtladpdeneiaaeaaDoor.PAll
open Go.RowKit Go.Proofs.YtladpdeneiaaeaaDoorW.PrintWords Go.Proofs.YtladpdeneiaaeaaDoorW.PrintLast Go.Proofs.YtladpdeneiaaeaaDoorW.PrintMore
attribute [local go_sem] max2_int min2_int max_two min_two max_three min_three max_four min_four   -- for this text's walks alone
set_option linter.unusedVariables false
set_option linter.unusedSimpArgs false

/-! ### reedsolomon_DoorDivide: function 29 -/
def reedsolomon_DoorDivide.f (a0 : Int) (a1 : Int) : Option (Int) := (reedsolomon_galDivide.f a0 a1).bind fun t114 => (some t114)
set_option maxHeartbeats 8000000 in
set_option maxRecDepth 100000 in
theorem reedsolomon_DoorDivide.calls (a0 : Int) (a1 : Int) (r : Int) (w : World) (hG : Glob w) (h : reedsolomon_DoorDivide.f a0 a1 = some r) :
    Calls Tryd.prog 29 #[.int .u8 a0, .int .u8 a1] w fun e w' => e = .returned (.int .u8 r) ∧ Drawn0 w w' := by
  have H : ((reedsolomon_galDivide.f a0 a1).bind fun t114 => (some t114)) = some r := h
  clear h
  replace H := Option.bind_eq_some_iff.mp H
  obtain ⟨t114, A30, H⟩ := H
  replace H : (some t114) = some r := H
  have A3 := Aside0.mk A30
  clear A30
  obtain rfl := Option.some.inj H
  go_enter Tryd.func29, Tryd.ntmps29
  go_wp2_with (first | ((with_reducible refine gate_callee (f := 46) rfl ?_); refine goesL_ (some 7) rfl rfl Tryd.func46 (by kernel_rfl) rfl #[.int .u8 a0, .int .u8 a1] rfl (by (try simp only [List.map_toArray, List.map_cons, List.map_nil]); first | done | rfl | (simp only [List.length_drop, List.length_take]; rfl)) ?_; (with_reducible refine (reedsolomon_galDivide.calls a0 a1 t114 _ ?side1 A3.out).mono ?_); (case side1 => repeat (first | exact hG | apply Glob.drewN | apply Glob.drew)); rintro e w' ⟨rfl, ⟨nd, rfl⟩⟩; refine ⟨_, rfl, ?_⟩))
  go_ret
  exact ⟨by first | rfl | (simp; done) | (simp [*]; done), by repeat (first | exact Drawn0.refl _ | apply Drawn0.step)⟩

/-! ### impl_Div: function 11 -/
def impl_Div.f (a0 : Int) (a1 : Int) : Option (Int × Bool) := if a1 = 0 then (some (0, false)) else ((reedsolomon_DoorDivide.f a0 a1).bind fun t115 => (some (t115, true)))
set_option maxHeartbeats 8000000 in
set_option maxRecDepth 100000 in
theorem impl_Div.calls (a0 : Int) (a1 : Int) (r1 : Int) (r2 : Bool) (w : World) (hG : Glob w) (h : impl_Div.f a0 a1 = some (r1, r2)) :
    Calls Tryd.prog 11 #[.int .u8 a0, .int .u8 a1] w fun e w' => e = .returned (.tuple #[.int .u8 r1, .bool r2]) ∧ Drawn0 w w' := by
  have H : (if a1 = 0 then (some (0, false)) else ((reedsolomon_DoorDivide.f a0 a1).bind fun t115 => (some (t115, true)))) = some (r1, r2) := h
  clear h
  by_cases c3 : a1 = 0
  · rw [if_pos c3] at H
    have c3b0 : (a1 == 0) = true := beq_iff_eq.mpr c3
    have c3b1 : (a1 != 0) = false := bne_eq_false_iff_eq.mpr c3
    clear c3
    simp only [Option.some.injEq, Prod.mk.injEq] at H
    obtain ⟨rfl, rfl⟩ := H
    go_enter Tryd.func11, Tryd.ntmps11
    go_wp2
    go_ret2
    exact ⟨by first | rfl | (simp; done) | (simp [*]; done), by repeat (first | exact Drawn0.refl _ | apply Drawn0.step)⟩
  · rw [if_neg c3] at H
    have c3b0 : (a1 == 0) = false := beq_eq_false_iff_ne.mpr c3
    have c3b1 : (a1 != 0) = true := bne_iff_ne.mpr c3
    replace H := Option.bind_eq_some_iff.mp H
    obtain ⟨t115, A40, H⟩ := H
    replace H : (some (t115, true)) = some (r1, r2) := H
    have A4 := Aside0.mk A40
    clear A40
    simp only [Option.some.injEq, Prod.mk.injEq] at H
    obtain ⟨rfl, rfl⟩ := H
    go_enter Tryd.func11, Tryd.ntmps11
    go_wp2_with (first | ((with_reducible refine gate_callee (f := 29) rfl ?_); refine goesL_ (some 10) rfl rfl Tryd.func29 (by kernel_rfl) rfl #[.int .u8 a0, .int .u8 a1] rfl (by (try simp only [List.map_toArray, List.map_cons, List.map_nil]); first | done | rfl | (simp only [List.length_drop, List.length_take]; rfl)) ?_; (with_reducible refine (reedsolomon_DoorDivide.calls a0 a1 t115 _ ?side1 A4.out).mono ?_); (case side1 => repeat (first | exact hG | apply Glob.drewN | apply Glob.drew)); rintro e w' ⟨rfl, ⟨nd, rfl⟩⟩; refine ⟨_, rfl, ?_⟩))
    go_ret2
    exact ⟨by first | rfl | (simp; done) | (simp [*]; done), by repeat (first | exact Drawn0.refl _ | apply Drawn0.step)⟩

/-! ### spec_remainder: function 47 -/
def spec_remainder.l0 : Nat → Int → Int → Int → Int → Option (Int)
  | 0, _, _, _, _ => none
  | k + 1, x0, x1, x2, x7 => if x7 ≥ x2 then (if 0 ≤ x7 then (if (Go.bits .and .u64 (shr .u64 x0 x7) 1) = 1 then (if 0 ≤ (wrap64 (x7 - x2)) then (spec_remainder.l0 k (Go.bits .xor .u64 x0 (shl .u64 x1 (wrap64 (x7 - x2)))) x1 x2 (wrap64 (x7 - 1))) else (none)) else (spec_remainder.l0 k x0 x1 x2 (wrap64 (x7 - 1)))) else (none)) else (some x0)
def spec_remainder.f (k : Nat) (a0 : Int) (a1 : Int) (a2 : Int) : Option (Int) := spec_remainder.l0 k a0 a1 a2 63
theorem spec_remainder.mono_l : ∀ k, (∀ y0 y1 y2 y3, LeO (spec_remainder.l0 k y0 y1 y2 y3) (spec_remainder.l0 (k + 1) y0 y1 y2 y3))
  | 0 => fun _ _ _ _ r h => by simp [spec_remainder.l0] at h
  | k + 1 => by
    have ih0 := spec_remainder.mono_l k
    · intro y0 y1 y2 y3
      unfold spec_remainder.l0
      repeat' first
      | (with_reducible exact ih0 _ _ _ _)
      | (with_reducible exact LeO.refl _)
      | (with_reducible exact LeO.none _)
      | (with_reducible refine LeO.ite ?_ ?_)
      | (with_reducible refine LeO.bind ?_ (fun _ => ?_))
      | exact ih0 _ _ _ _
      | exact LeO.none _
      | refine LeO.ite ?_ ?_
      | refine LeO.bind ?_ (fun _ => ?_)
theorem spec_remainder.mono : ∀ a0 a1 a2 k, LeO (spec_remainder.f k a0 a1 a2) (spec_remainder.f (k + 1) a0 a1 a2) := by
  intro a0 a1 a2 k
  have ih0 := spec_remainder.mono_l k
  unfold spec_remainder.f
  repeat' first
      | (with_reducible exact ih0 _ _ _ _)
      | (with_reducible exact LeO.refl _)
      | (with_reducible exact LeO.none _)
      | (with_reducible refine LeO.ite ?_ ?_)
      | (with_reducible refine LeO.bind ?_ (fun _ => ?_))
      | exact ih0 _ _ _ _
      | exact LeO.none _
      | refine LeO.ite ?_ ?_
      | refine LeO.bind ?_ (fun _ => ?_)
set_option maxHeartbeats 8000000 in
set_option maxRecDepth 100000 in
theorem spec_remainder.calls (k : Nat) (a0 : Int) (a1 : Int) (a2 : Int) (r : Int) (w : World) (h : spec_remainder.f k a0 a1 a2 = some r) :
    Calls Tryd.prog 47 #[.int .u64 a0, .int .u64 a1, .int .i64 a2] w fun e w' => e = .returned (.int .u64 r) ∧ Drawn0 w w' := by
  have H : (spec_remainder.l0 k a0 a1 a2 63) = some r := h
  clear h
  have H' := Aside0.mk H
  clear H
  go_enter Tryd.func47, Tryd.ntmps47
  go_wp2
  try simp only [Act.put, List.setIfInBounds_toArray, List.set_cons_zero, List.set_cons_succ]
  go_loopg [0, 7] k (fun kq v0 v7 w' => ∃ (x0_1 : Int) (x7_1 : Int), v0 = .int .u64 x0_1 ∧ v7 = .int .i64 x7_1 ∧ Aside0 (spec_remainder.l0 kq x0_1 a1 a2 x7_1 = some r) ∧ Aside0 (kq ≤ k) ∧ Drawn0 w w')
  case atStart => exact ⟨(a0), (63), (by first | rfl | (simp; done) | (simp [*]; done)), (by first | rfl | (simp; done) | (simp [*]; done)), H', ⟨Nat.le_refl _⟩, by repeat (first | exact Drawn0.refl _ | apply Drawn0.step)⟩
  case round =>
    clear H'
    try clear p2
    obtain ⟨x0_1, x7_1, rfl, rfl, HA, HK1, ⟨m1, rfl⟩⟩ := hrel
    cases gk with
    | zero => exact absurd HA.out (by simp [spec_remainder.l0])
    | succ k1 =>
      have H := HA.out
      clear HA
      simp only [spec_remainder.l0] at H
      by_cases c4 : x7_1 ≥ a2
      · rw [if_pos c4] at H
        have c4b0 : decide (a2 ≤ x7_1) = true := decide_eq_true c4
        clear c4
        by_cases c5 : 0 ≤ x7_1
        · rw [if_pos c5] at H
          have c5b0 := eq_true c5
          have c5b1 : decide (0 ≤ x7_1) = true := decide_eq_true c5
          clear c5
          obtain ⟨ji6, hji6⟩ : ∃ j_ : Int, (shr .u64 x0_1 x7_1) = j_ := ⟨_, rfl⟩
          replace H : (if (Go.bits .and .u64 (ji6) 1) = 1 then (if 0 ≤ (wrap64 (x7_1 - a2)) then (spec_remainder.l0 k1 (Go.bits .xor .u64 x0_1 (shl .u64 a1 (wrap64 (x7_1 - a2)))) a1 a2 (wrap64 (x7_1 - 1))) else (none)) else (spec_remainder.l0 k1 x0_1 a1 a2 (wrap64 (x7_1 - 1)))) = some r := by first | (rw [hji6] at H; exact H) | (simp only [hji6] at H ⊢; exact H)
          have hji6_ : (x0_1 / 2 ^ min x7_1.toNat 64) = ji6 := hji6
          have hji6z : x7_1 ≤ 64 → (x0_1 / 2 ^ x7_1.toNat) = ji6 := shr_small hji6
          by_cases c7 : (Go.bits .and .u64 (ji6) 1) = 1
          · rw [if_pos c7] at H
            have c7b0 : ((Go.bits .and .u64 (ji6) 1) == 1) = true := beq_iff_eq.mpr c7
            have c7b1 : ((Go.bits .and .u64 (ji6) 1) != 1) = false := bne_eq_false_iff_eq.mpr c7
            clear c7
            obtain ⟨ji8, hji8⟩ : ∃ j_ : Int, (wrap64 (x7_1 - a2)) = j_ := ⟨_, rfl⟩
            replace H : (if 0 ≤ (ji8) then (spec_remainder.l0 k1 (Go.bits .xor .u64 x0_1 (shl .u64 a1 (ji8))) a1 a2 (wrap64 (x7_1 - 1))) else (none)) = some r := by first | (rw [hji8] at H; exact H) | (simp only [hji8] at H ⊢; exact H)
            have hji8w : (IntKind.i64.wrap (x7_1 - a2)) = ji8 := (i64_w _).trans hji8
            by_cases c9 : 0 ≤ (ji8)
            · rw [if_pos c9] at H
              have c9b0 := eq_true c9
              have c9b1 : decide (0 ≤ (ji8)) = true := decide_eq_true c9
              clear c9
              obtain ⟨ji10, hji10⟩ : ∃ j_ : Int, (shl .u64 a1 (ji8)) = j_ := ⟨_, rfl⟩
              replace H : (spec_remainder.l0 k1 (Go.bits .xor .u64 x0_1 (ji10)) a1 a2 (wrap64 (x7_1 - 1))) = some r := by first | (rw [hji10] at H; exact H) | (simp only [hji10] at H ⊢; exact H)
              have hji10_ : (IntKind.u64.wrap (a1 * 2 ^ min (ji8).toNat 64)) = ji10 := hji10
              have hji10z : (ji8) ≤ 64 → (IntKind.u64.wrap (a1 * 2 ^ (ji8).toNat)) = ji10 := shl_small hji10
              have H' := Aside0.mk H
              clear H
              go_wp2
              go_roundg k1
              case measure => have := HK1.out; omega
              case rel => exact ⟨(Go.bits .xor .u64 x0_1 (ji10)), (wrap64 (x7_1 - 1)), (by first | rfl | (simp; done) | (simp only [← hji10] <;> (first | rfl | simp)) | (simp [*]; done)), (by first | rfl | (simp; done) | (simp [*]; done)), H', ⟨by have := HK1.out; omega⟩, by repeat (first | exact Drawn0.refl _ | apply Drawn0.step)⟩
            · rw [if_neg c9] at H
              exact absurd H (by simp)
          · rw [if_neg c7] at H
            have c7b0 : ((Go.bits .and .u64 (ji6) 1) == 1) = false := beq_eq_false_iff_ne.mpr c7
            have c7b1 : ((Go.bits .and .u64 (ji6) 1) != 1) = true := bne_iff_ne.mpr c7
            have H' := Aside0.mk H
            clear H
            go_wp2
            go_roundg k1
            case measure => have := HK1.out; omega
            case rel => exact ⟨(x0_1), (wrap64 (x7_1 - 1)), (by first | rfl | (simp; done) | (simp [*]; done)), (by first | rfl | (simp; done) | (simp [*]; done)), H', ⟨by have := HK1.out; omega⟩, by repeat (first | exact Drawn0.refl _ | apply Drawn0.step)⟩
        · rw [if_neg c5] at H
          exact absurd H (by simp)
      · rw [if_neg c4] at H
        have c4b0 : decide (a2 ≤ x7_1) = false := decide_eq_false c4
        clear c4
        obtain rfl := Option.some.inj H
        go_wp2
        go_ret
        exact ⟨by first | rfl | (simp; done) | (simp [*]; done), by repeat (first | exact Drawn0.refl _ | apply Drawn0.step)⟩

/-! ### spec_product: function 48 -/
def spec_product.l0 : Nat → Int → Int → Int → Int → Option (Int)
  | 0, _, _, _, _ => none
  | k + 1, x0, x1, x5, x6 => if x6 < 32 then (if 0 ≤ x6 then (if (Go.bits .and .u32 (shr .u32 x1 x6) 1) = 1 then (spec_product.l0 k x0 x1 (Go.bits .xor .u64 x5 (shl .u64 (IntKind.u64.wrap (x0)) x6)) (wrap64 (x6 + 1))) else (spec_product.l0 k x0 x1 x5 (wrap64 (x6 + 1)))) else (none)) else (some x5)
def spec_product.f (k : Nat) (a0 : Int) (a1 : Int) : Option (Int) := spec_product.l0 k a0 a1 0 0
theorem spec_product.mono_l : ∀ k, (∀ y0 y1 y2 y3, LeO (spec_product.l0 k y0 y1 y2 y3) (spec_product.l0 (k + 1) y0 y1 y2 y3))
  | 0 => fun _ _ _ _ r h => by simp [spec_product.l0] at h
  | k + 1 => by
    have ih0 := spec_product.mono_l k
    · intro y0 y1 y2 y3
      unfold spec_product.l0
      repeat' first
      | (with_reducible exact ih0 _ _ _ _)
      | (with_reducible exact LeO.refl _)
      | (with_reducible exact LeO.none _)
      | (with_reducible refine LeO.ite ?_ ?_)
      | (with_reducible refine LeO.bind ?_ (fun _ => ?_))
      | exact ih0 _ _ _ _
      | exact LeO.none _
      | refine LeO.ite ?_ ?_
      | refine LeO.bind ?_ (fun _ => ?_)
theorem spec_product.mono : ∀ a0 a1 k, LeO (spec_product.f k a0 a1) (spec_product.f (k + 1) a0 a1) := by
  intro a0 a1 k
  have ih0 := spec_product.mono_l k
  unfold spec_product.f
  repeat' first
      | (with_reducible exact ih0 _ _ _ _)
      | (with_reducible exact LeO.refl _)
      | (with_reducible exact LeO.none _)
      | (with_reducible refine LeO.ite ?_ ?_)
      | (with_reducible refine LeO.bind ?_ (fun _ => ?_))
      | exact ih0 _ _ _ _
      | exact LeO.none _
      | refine LeO.ite ?_ ?_
      | refine LeO.bind ?_ (fun _ => ?_)
set_option maxHeartbeats 8000000 in
set_option maxRecDepth 100000 in
theorem spec_product.calls (k : Nat) (a0 : Int) (a1 : Int) (r : Int) (w : World) (h : spec_product.f k a0 a1 = some r) :
    Calls Tryd.prog 48 #[.int .u32 a0, .int .u32 a1] w fun e w' => e = .returned (.int .u64 r) ∧ Drawn0 w w' := by
  have H : (spec_product.l0 k a0 a1 0 0) = some r := h
  clear h
  have H' := Aside0.mk H
  clear H
  go_enter Tryd.func48, Tryd.ntmps48
  go_wp2
  try simp only [Act.put, List.setIfInBounds_toArray, List.set_cons_zero, List.set_cons_succ]
  go_loopg [5, 6] k (fun kq v5 v6 w' => ∃ (x5_1 : Int) (x6_1 : Int), v5 = .int .u64 x5_1 ∧ v6 = .int .i64 x6_1 ∧ Aside0 (spec_product.l0 kq a0 a1 x5_1 x6_1 = some r) ∧ Aside0 (kq ≤ k) ∧ Drawn0 w w')
  case atStart => exact ⟨(0), (0), (by first | rfl | (simp; done) | (simp [*]; done)), (by first | rfl | (simp; done) | (simp [*]; done)), H', ⟨Nat.le_refl _⟩, by repeat (first | exact Drawn0.refl _ | apply Drawn0.step)⟩
  case round =>
    clear H'
    try clear p2
    obtain ⟨x5_1, x6_1, rfl, rfl, HA, HK1, ⟨m1, rfl⟩⟩ := hrel
    cases gk with
    | zero => exact absurd HA.out (by simp [spec_product.l0])
    | succ k1 =>
      have H := HA.out
      clear HA
      simp only [spec_product.l0] at H
      by_cases c3 : x6_1 < 32
      · rw [if_pos c3] at H
        have c3b0 : decide (x6_1 < 32) = true := decide_eq_true c3
        clear c3
        by_cases c4 : 0 ≤ x6_1
        · rw [if_pos c4] at H
          have c4b0 := eq_true c4
          have c4b1 : decide (0 ≤ x6_1) = true := decide_eq_true c4
          clear c4
          obtain ⟨ji5, hji5⟩ : ∃ j_ : Int, (shr .u32 a1 x6_1) = j_ := ⟨_, rfl⟩
          replace H : (if (Go.bits .and .u32 (ji5) 1) = 1 then (spec_product.l0 k1 a0 a1 (Go.bits .xor .u64 x5_1 (shl .u64 (IntKind.u64.wrap (a0)) x6_1)) (wrap64 (x6_1 + 1))) else (spec_product.l0 k1 a0 a1 x5_1 (wrap64 (x6_1 + 1)))) = some r := by first | (rw [hji5] at H; exact H) | (simp only [hji5] at H ⊢; exact H)
          have hji5_ : (a1 / 2 ^ min x6_1.toNat 32) = ji5 := hji5
          have hji5z : x6_1 ≤ 32 → (a1 / 2 ^ x6_1.toNat) = ji5 := shr_small hji5
          by_cases c6 : (Go.bits .and .u32 (ji5) 1) = 1
          · rw [if_pos c6] at H
            have c6b0 : ((Go.bits .and .u32 (ji5) 1) == 1) = true := beq_iff_eq.mpr c6
            have c6b1 : ((Go.bits .and .u32 (ji5) 1) != 1) = false := bne_eq_false_iff_eq.mpr c6
            clear c6
            have c7b0 := eq_true (of_decide_eq_true (by first | (with_reducible assumption) | assumption) : 0 ≤ x6_1)
            obtain ⟨ji8, hji8⟩ : ∃ j_ : Int, (shl .u64 (IntKind.u64.wrap (a0)) x6_1) = j_ := ⟨_, rfl⟩
            replace H : (spec_product.l0 k1 a0 a1 (Go.bits .xor .u64 x5_1 (ji8)) (wrap64 (x6_1 + 1))) = some r := by first | (rw [hji8] at H; exact H) | (simp only [hji8] at H ⊢; exact H)
            have hji8_ : (IntKind.u64.wrap ((IntKind.u64.wrap (a0)) * 2 ^ min x6_1.toNat 64)) = ji8 := hji8
            have hji8z : x6_1 ≤ 64 → (IntKind.u64.wrap ((IntKind.u64.wrap (a0)) * 2 ^ x6_1.toNat)) = ji8 := shl_small hji8
            have H' := Aside0.mk H
            clear H
            go_wp2
            go_roundg k1
            case measure => have := HK1.out; omega
            case rel => exact ⟨(Go.bits .xor .u64 x5_1 (ji8)), (wrap64 (x6_1 + 1)), (by first | rfl | (simp; done) | (simp only [← hji8] <;> (first | rfl | simp)) | (simp [*]; done)), (by first | rfl | (simp; done) | (simp [*]; done)), H', ⟨by have := HK1.out; omega⟩, by repeat (first | exact Drawn0.refl _ | apply Drawn0.step)⟩
          · rw [if_neg c6] at H
            have c6b0 : ((Go.bits .and .u32 (ji5) 1) == 1) = false := beq_eq_false_iff_ne.mpr c6
            have c6b1 : ((Go.bits .and .u32 (ji5) 1) != 1) = true := bne_iff_ne.mpr c6
            have H' := Aside0.mk H
            clear H
            go_wp2
            go_roundg k1
            case measure => have := HK1.out; omega
            case rel => exact ⟨(x5_1), (wrap64 (x6_1 + 1)), (by first | rfl | (simp; done) | (simp [*]; done)), (by first | rfl | (simp; done) | (simp [*]; done)), H', ⟨by have := HK1.out; omega⟩, by repeat (first | exact Drawn0.refl _ | apply Drawn0.step)⟩
        · rw [if_neg c4] at H
          exact absurd H (by simp)
      · rw [if_neg c3] at H
        have c3b0 : decide (x6_1 < 32) = false := decide_eq_false c3
        clear c3
        obtain rfl := Option.some.inj H
        go_wp2
        go_ret
        exact ⟨by first | rfl | (simp; done) | (simp [*]; done), by repeat (first | exact Drawn0.refl _ | apply Drawn0.step)⟩

/-! ### spec_Mul: function 30 -/
def spec_Mul.f (k : Nat) (a0 : Int) (a1 : Int) : Option (Int) := (spec_product.f k ((a0) % 4294967296) ((a1) % 4294967296)).bind fun t116 => ((spec_remainder.f k t116 285 8).bind fun t117 => (some ((t117) % 256)))
theorem spec_Mul.mono : ∀ a0 a1 k, LeO (spec_Mul.f k a0 a1) (spec_Mul.f (k + 1) a0 a1) := by
  intro a0 a1 k
  unfold spec_Mul.f
  repeat' first
      | (with_reducible exact spec_product.mono _ _ _)
      | (with_reducible exact spec_remainder.mono _ _ _ _)
      | (with_reducible exact LeO.refl _)
      | (with_reducible exact LeO.none _)
      | (with_reducible refine LeO.ite ?_ ?_)
      | (with_reducible refine LeO.bind ?_ (fun _ => ?_))
      | exact spec_product.mono _ _ _
      | exact spec_remainder.mono _ _ _ _
      | exact LeO.none _
      | refine LeO.ite ?_ ?_
      | refine LeO.bind ?_ (fun _ => ?_)
set_option maxHeartbeats 8000000 in
set_option maxRecDepth 100000 in
theorem spec_Mul.calls (k : Nat) (a0 : Int) (a1 : Int) (r : Int) (w : World) (h : spec_Mul.f k a0 a1 = some r) :
    Calls Tryd.prog 30 #[.int .u8 a0, .int .u8 a1] w fun e w' => e = .returned (.int .u8 r) ∧ Drawn0 w w' := by
  have H : ((spec_product.f k ((a0) % 4294967296) ((a1) % 4294967296)).bind fun t116 => ((spec_remainder.f k t116 285 8).bind fun t117 => (some ((t117) % 256)))) = some r := h
  clear h
  replace H := Option.bind_eq_some_iff.mp H
  obtain ⟨t116, A30, H⟩ := H
  replace H : ((spec_remainder.f k t116 285 8).bind fun t117 => (some ((t117) % 256))) = some r := H
  have A3 := Aside0.mk A30
  clear A30
  replace H := Option.bind_eq_some_iff.mp H
  obtain ⟨t117, A40, H⟩ := H
  replace H : (some ((t117) % 256)) = some r := H
  have A4 := Aside0.mk A40
  clear A40
  obtain rfl := Option.some.inj H
  go_enter Tryd.func30, Tryd.ntmps30
  go_wp2_with (first | ((with_reducible refine gate_callee (f := 48) rfl ?_); refine goesL_ (some 9) rfl rfl Tryd.func48 (by kernel_rfl) rfl #[.int .u32 ((a0) % 4294967296), .int .u32 ((a1) % 4294967296)] rfl (by (try simp only [List.map_toArray, List.map_cons, List.map_nil]); first | done | rfl | (simp only [List.length_drop, List.length_take]; rfl)) ?_; (with_reducible refine (spec_product.calls k ((a0) % 4294967296) ((a1) % 4294967296) t116 _ A3.out).mono ?_); rintro e w' ⟨rfl, ⟨nd, rfl⟩⟩; refine ⟨_, rfl, ?_⟩) | ((with_reducible refine gate_callee (f := 47) rfl ?_); refine goesL_ (some 10) rfl rfl Tryd.func47 (by kernel_rfl) rfl #[.int .u64 t116, .int .u64 285, .int .i64 8] rfl (by (try simp only [List.map_toArray, List.map_cons, List.map_nil]); first | done | rfl | (simp only [List.length_drop, List.length_take]; rfl)) ?_; (with_reducible refine (spec_remainder.calls k t116 285 8 t117 _ A4.out).mono ?_); rintro e w' ⟨rfl, ⟨nd, rfl⟩⟩; refine ⟨_, rfl, ?_⟩))
  go_ret
  exact ⟨by first | rfl | (simp; done) | (simp [*]; done), by repeat (first | exact Drawn0.refl _ | apply Drawn0.step)⟩

/-! ### spec_Eval: function 12 -/
def spec_Eval.l0 : Nat → List Int → Int → Int → Int → Option (Int)
  | 0, _, _, _, _ => none
  | k + 1, x0, x1, x5, x6 => if x6 ≥ 0 then ((spec_Mul.f k x5 x1).bind fun t118 => (if 0 ≤ x6 then (if x6 < (x0.length : Int) then (spec_Eval.l0 k x0 x1 (Go.bits .xor .u8 t118 (rd x0 x6)) (wrap64 (x6 - 1))) else (none)) else (none))) else (some x5)
def spec_Eval.f (k : Nat) (l0 : List Int) (a1 : Int) : Option (Int) := spec_Eval.l0 k l0 a1 0 (wrap64 ((l0.length : Int) - 1))
theorem spec_Eval.mono_l : ∀ k, (∀ y0 y1 y2 y3, LeO (spec_Eval.l0 k y0 y1 y2 y3) (spec_Eval.l0 (k + 1) y0 y1 y2 y3))
  | 0 => fun _ _ _ _ r h => by simp [spec_Eval.l0] at h
  | k + 1 => by
    have ih0 := spec_Eval.mono_l k
    · intro y0 y1 y2 y3
      unfold spec_Eval.l0
      repeat' first
      | (with_reducible exact ih0 _ _ _ _)
      | (with_reducible exact spec_Mul.mono _ _ _)
      | (with_reducible exact LeO.refl _)
      | (with_reducible exact LeO.none _)
      | (with_reducible refine LeO.ite ?_ ?_)
      | (with_reducible refine LeO.bind ?_ (fun _ => ?_))
      | exact ih0 _ _ _ _
      | exact spec_Mul.mono _ _ _
      | exact LeO.none _
      | refine LeO.ite ?_ ?_
      | refine LeO.bind ?_ (fun _ => ?_)
theorem spec_Eval.mono : ∀ a0 a1 k, LeO (spec_Eval.f k a0 a1) (spec_Eval.f (k + 1) a0 a1) := by
  intro a0 a1 k
  have ih0 := spec_Eval.mono_l k
  unfold spec_Eval.f
  repeat' first
      | (with_reducible exact ih0 _ _ _ _)
      | (with_reducible exact spec_Mul.mono _ _ _)
      | (with_reducible exact LeO.refl _)
      | (with_reducible exact LeO.none _)
      | (with_reducible refine LeO.ite ?_ ?_)
      | (with_reducible refine LeO.bind ?_ (fun _ => ?_))
      | exact ih0 _ _ _ _
      | exact spec_Mul.mono _ _ _
      | exact LeO.none _
      | refine LeO.ite ?_ ?_
      | refine LeO.bind ?_ (fun _ => ?_)
set_option maxHeartbeats 8000000 in
set_option maxRecDepth 100000 in
theorem spec_Eval.calls (k : Nat) (A0 : Option Addr) (c0 : Nat) (l0 : List Int) (a1 : Int) (r : Int) (w : World) (hr0 : Kd.C (Kd.int .u8) w A0 l0.length l0) (hc0 : l0.length ≤ c0) (h : spec_Eval.f k l0 a1 = some r) :
    Calls Tryd.prog 12 #[.slice A0 l0.length c0, .int .u8 a1] w fun e w' => e = .returned (.int .u8 r) ∧ Drawn0 w w' := by
  have HR0 := Aside0.mk hr0
  have HC0 := Aside0.mk hc0
  clear hr0 hc0
  have H : (spec_Eval.l0 k l0 a1 0 (wrap64 ((l0.length : Int) - 1))) = some r := h
  clear h
  have H' := Aside0.mk H
  clear H
  go_enter Tryd.func12, Tryd.ntmps12
  go_wp2
  repeat (go_quiet (fail); try go_wp2)
  try simp only [Act.put, List.setIfInBounds_toArray, List.set_cons_zero, List.set_cons_succ]
  go_loopg [5, 6] k (fun kq v5 v6 w' => ∃ (x5_1 : Int) (x6_1 : Int), v5 = .int .u8 x5_1 ∧ v6 = .int .i64 x6_1 ∧ Aside0 (spec_Eval.l0 kq l0 a1 x5_1 x6_1 = some r) ∧ Aside0 (kq ≤ k) ∧ Drawn0 w w')
  case atStart => exact ⟨(0), (wrap64 ((l0.length : Int) - 1)), (by first | rfl | (simp; done) | (simp [*]; done)), (by first | rfl | (simp; done) | (simp [*]; done)), H', ⟨Nat.le_refl _⟩, by repeat (first | exact Drawn0.refl _ | apply Drawn0.step)⟩
  case round =>
    clear H'
    try clear c1
    try clear p2
    obtain ⟨x5_1, x6_1, rfl, rfl, HA, HK1, ⟨m1, rfl⟩⟩ := hrel
    cases gk with
    | zero => exact absurd HA.out (by simp [spec_Eval.l0])
    | succ k1 =>
      have H := HA.out
      clear HA
      simp only [spec_Eval.l0] at H
      by_cases c3 : x6_1 ≥ 0
      · rw [if_pos c3] at H
        have c3b0 : decide (0 ≤ x6_1) = true := decide_eq_true c3
        clear c3
        replace H := Option.bind_eq_some_iff.mp H
        obtain ⟨t118, A40, H⟩ := H
        replace H : (if 0 ≤ x6_1 then (if x6_1 < (l0.length : Int) then (spec_Eval.l0 k1 l0 a1 (Go.bits .xor .u8 t118 (rd l0 x6_1)) (wrap64 (x6_1 - 1))) else (none)) else (none)) = some r := H
        have A4 := Aside0.mk A40
        clear A40
        by_cases c5 : 0 ≤ x6_1
        · rw [if_pos c5] at H
          have c5b0 : decide (0 ≤ x6_1) = true := decide_eq_true c5
          clear c5
          by_cases c6 : x6_1 < (l0.length : Int)
          · rw [if_pos c6] at H
            have c6b0 : decide (x6_1 < (l0.length : Int)) = true := decide_eq_true c6
            clear c6
            have H' := Aside0.mk H
            clear H
            go_wp2_with (first | (go_at_call 30; (with_reducible refine (spec_Mul.calls k1 x5_1 a1 t118 _ A4.out).mono ?_); rintro e w' ⟨rfl, ⟨nd, rfl⟩⟩; (try first | exact ⟨rfl, _, World.drewN_drewN _ _ _⟩ | exact ⟨rfl, _, Eq.trans (World.drewN_drewN _ _ _) (congrArg (World.drewN _) (Nat.add_assoc _ _ _))⟩); have p119 : 0 ≤ (x6_1 : Int) := of_decide_eq_true (by first | (with_reducible assumption) | assumption); have q119 : x6_1 < (l0.length : Int) := of_decide_eq_true (by first | (with_reducible assumption) | assumption); obtain ⟨ad119, e119, hx119_0⟩ := Kd.at_int HR0.out x6_1 p119 q119; cases e119; replace p119 := eq_true p119; replace q119 := eq_true q119))
            repeat (go_quiet (first | (go_at_call 30; (with_reducible refine (spec_Mul.calls k1 x5_1 a1 t118 _ A4.out).mono ?_); rintro e w' ⟨rfl, ⟨nd, rfl⟩⟩; (try first | exact ⟨rfl, _, World.drewN_drewN _ _ _⟩ | exact ⟨rfl, _, Eq.trans (World.drewN_drewN _ _ _) (congrArg (World.drewN _) (Nat.add_assoc _ _ _))⟩); have p119 : 0 ≤ (x6_1 : Int) := of_decide_eq_true (by first | (with_reducible assumption) | assumption); have q119 : x6_1 < (l0.length : Int) := of_decide_eq_true (by first | (with_reducible assumption) | assumption); obtain ⟨ad119, e119, hx119_0⟩ := Kd.at_int HR0.out x6_1 p119 q119; cases e119; replace p119 := eq_true p119; replace q119 := eq_true q119)); try go_wp2_with (first | (go_at_call 30; (with_reducible refine (spec_Mul.calls k1 x5_1 a1 t118 _ A4.out).mono ?_); rintro e w' ⟨rfl, ⟨nd, rfl⟩⟩; (try first | exact ⟨rfl, _, World.drewN_drewN _ _ _⟩ | exact ⟨rfl, _, Eq.trans (World.drewN_drewN _ _ _) (congrArg (World.drewN _) (Nat.add_assoc _ _ _))⟩); have p119 : 0 ≤ (x6_1 : Int) := of_decide_eq_true (by first | (with_reducible assumption) | assumption); have q119 : x6_1 < (l0.length : Int) := of_decide_eq_true (by first | (with_reducible assumption) | assumption); obtain ⟨ad119, e119, hx119_0⟩ := Kd.at_int HR0.out x6_1 p119 q119; cases e119; replace p119 := eq_true p119; replace q119 := eq_true q119)))
            go_roundg k1
            case measure => have := HK1.out; omega
            case rel => exact ⟨(Go.bits .xor .u8 t118 (rd l0 x6_1)), (wrap64 (x6_1 - 1)), (by first | rfl | (simp; done) | (simp [*]; done)), (by first | rfl | (simp; done) | (simp [*]; done)), H', ⟨by have := HK1.out; omega⟩, by repeat (first | exact Drawn0.refl _ | apply Drawn0.step)⟩
          · rw [if_neg c6] at H
            exact absurd H (by simp)
        · rw [if_neg c5] at H
          exact absurd H (by simp)
      · rw [if_neg c3] at H
        have c3b0 : decide (0 ≤ x6_1) = false := decide_eq_false c3
        clear c3
        obtain rfl := Option.some.inj H
        go_wp2
        repeat (go_quiet (fail); try go_wp2)
        go_ret
        exact ⟨by first | rfl | (simp; done) | (simp [*]; done), by repeat (first | exact Drawn0.refl _ | apply Drawn0.step)⟩

/-! ### spec_Inverse: function 49 -/
def spec_Inverse.l0 : Nat → Int → Int → Option (Int)
  | 0, _, _ => none
  | k + 1, x0, x3 => if x3 < 256 then ((spec_Mul.f k x0 ((x3) % 256)).bind fun t120 => (if t120 = 1 then (some ((x3) % 256)) else (spec_Inverse.l0 k x0 (wrap64 (x3 + 1))))) else (some 0)
def spec_Inverse.f (k : Nat) (a0 : Int) : Option (Int) := spec_Inverse.l0 k a0 1
theorem spec_Inverse.mono_l : ∀ k, (∀ y0 y1, LeO (spec_Inverse.l0 k y0 y1) (spec_Inverse.l0 (k + 1) y0 y1))
  | 0 => fun _ _ r h => by simp [spec_Inverse.l0] at h
  | k + 1 => by
    have ih0 := spec_Inverse.mono_l k
    · intro y0 y1
      unfold spec_Inverse.l0
      repeat' first
      | (with_reducible exact ih0 _ _)
      | (with_reducible exact spec_Mul.mono _ _ _)
      | (with_reducible exact LeO.refl _)
      | (with_reducible exact LeO.none _)
      | (with_reducible refine LeO.ite ?_ ?_)
      | (with_reducible refine LeO.bind ?_ (fun _ => ?_))
      | exact ih0 _ _
      | exact spec_Mul.mono _ _ _
      | exact LeO.none _
      | refine LeO.ite ?_ ?_
      | refine LeO.bind ?_ (fun _ => ?_)
theorem spec_Inverse.mono : ∀ a0 k, LeO (spec_Inverse.f k a0) (spec_Inverse.f (k + 1) a0) := by
  intro a0 k
  have ih0 := spec_Inverse.mono_l k
  unfold spec_Inverse.f
  repeat' first
      | (with_reducible exact ih0 _ _)
      | (with_reducible exact spec_Mul.mono _ _ _)
      | (with_reducible exact LeO.refl _)
      | (with_reducible exact LeO.none _)
      | (with_reducible refine LeO.ite ?_ ?_)
      | (with_reducible refine LeO.bind ?_ (fun _ => ?_))
      | exact ih0 _ _
      | exact spec_Mul.mono _ _ _
      | exact LeO.none _
      | refine LeO.ite ?_ ?_
      | refine LeO.bind ?_ (fun _ => ?_)
set_option maxHeartbeats 8000000 in
set_option maxRecDepth 100000 in
theorem spec_Inverse.calls (k : Nat) (a0 : Int) (r : Int) (w : World) (h : spec_Inverse.f k a0 = some r) :
    Calls Tryd.prog 49 #[.int .u8 a0] w fun e w' => e = .returned (.int .u8 r) ∧ Drawn0 w w' := by
  have H : (spec_Inverse.l0 k a0 1) = some r := h
  clear h
  have H' := Aside0.mk H
  clear H
  go_enter Tryd.func49, Tryd.ntmps49
  go_wp2
  try simp only [Act.put, List.setIfInBounds_toArray, List.set_cons_zero, List.set_cons_succ]
  go_loopg [3] k (fun kq v3 w' => ∃ (x3_1 : Int), v3 = .int .i64 x3_1 ∧ Aside0 (spec_Inverse.l0 kq a0 x3_1 = some r) ∧ Aside0 (kq ≤ k) ∧ Drawn0 w w')
  case atStart => exact ⟨(1), (by first | rfl | (simp; done) | (simp [*]; done)), H', ⟨Nat.le_refl _⟩, by repeat (first | exact Drawn0.refl _ | apply Drawn0.step)⟩
  case round =>
    clear H'
    obtain ⟨x3_1, rfl, HA, HK1, ⟨m1, rfl⟩⟩ := hrel
    cases gk with
    | zero => exact absurd HA.out (by simp [spec_Inverse.l0])
    | succ k1 =>
      have H := HA.out
      clear HA
      simp only [spec_Inverse.l0] at H
      by_cases c2 : x3_1 < 256
      · rw [if_pos c2] at H
        have c2b0 : decide (x3_1 < 256) = true := decide_eq_true c2
        clear c2
        replace H := Option.bind_eq_some_iff.mp H
        obtain ⟨t120, A30, H⟩ := H
        replace H : (if t120 = 1 then (some ((x3_1) % 256)) else (spec_Inverse.l0 k1 a0 (wrap64 (x3_1 + 1)))) = some r := H
        have A3 := Aside0.mk A30
        clear A30
        by_cases c4 : t120 = 1
        · rw [if_pos c4] at H
          have c4b0 : (t120 == 1) = true := beq_iff_eq.mpr c4
          have c4b1 : (t120 != 1) = false := bne_eq_false_iff_eq.mpr c4
          clear c4
          obtain rfl := Option.some.inj H
          go_wp2_with (first | ((with_reducible refine gate_callee (f := 30) rfl ?_); refine goesL_ (some 11) rfl rfl Tryd.func30 (by kernel_rfl) rfl #[.int .u8 a0, .int .u8 ((x3_1) % 256)] rfl (by (try simp only [List.map_toArray, List.map_cons, List.map_nil]); first | done | rfl | (simp only [List.length_drop, List.length_take]; rfl)) ?_; (with_reducible refine (spec_Mul.calls k1 a0 ((x3_1) % 256) t120 _ A3.out).mono ?_); rintro e w' ⟨rfl, ⟨nd, rfl⟩⟩; refine ⟨_, rfl, ?_⟩))
          go_ret
          exact ⟨by first | rfl | (simp; done) | (simp [*]; done), by repeat (first | exact Drawn0.refl _ | apply Drawn0.step)⟩
        · rw [if_neg c4] at H
          have c4b0 : (t120 == 1) = false := beq_eq_false_iff_ne.mpr c4
          have c4b1 : (t120 != 1) = true := bne_iff_ne.mpr c4
          have H' := Aside0.mk H
          clear H
          go_wp2_with (first | ((with_reducible refine gate_callee (f := 30) rfl ?_); refine goesL_ (some 11) rfl rfl Tryd.func30 (by kernel_rfl) rfl #[.int .u8 a0, .int .u8 ((x3_1) % 256)] rfl (by (try simp only [List.map_toArray, List.map_cons, List.map_nil]); first | done | rfl | (simp only [List.length_drop, List.length_take]; rfl)) ?_; (with_reducible refine (spec_Mul.calls k1 a0 ((x3_1) % 256) t120 _ A3.out).mono ?_); rintro e w' ⟨rfl, ⟨nd, rfl⟩⟩; refine ⟨_, rfl, ?_⟩))
          go_roundg k1
          case measure => have := HK1.out; omega
          case rel => exact ⟨(wrap64 (x3_1 + 1)), (by first | rfl | (simp; done) | (simp [*]; done)), H', ⟨by have := HK1.out; omega⟩, by repeat (first | exact Drawn0.refl _ | apply Drawn0.step)⟩
      · rw [if_neg c2] at H
        have c2b0 : decide (x3_1 < 256) = false := decide_eq_false c2
        clear c2
        obtain rfl := Option.some.inj H
        go_wp2
        go_ret
        exact ⟨by first | rfl | (simp; done) | (simp [*]; done), by repeat (first | exact Drawn0.refl _ | apply Drawn0.step)⟩

/-! ### spec_Div: function 31 -/
def spec_Div.f (k : Nat) (a0 : Int) (a1 : Int) : Option (Int) := (spec_Inverse.f k a1).bind fun t121 => ((spec_Mul.f k a0 t121).bind fun t122 => (some t122))
theorem spec_Div.mono : ∀ a0 a1 k, LeO (spec_Div.f k a0 a1) (spec_Div.f (k + 1) a0 a1) := by
  intro a0 a1 k
  unfold spec_Div.f
  repeat' first
      | (with_reducible exact spec_Inverse.mono _ _)
      | (with_reducible exact spec_Mul.mono _ _ _)
      | (with_reducible exact LeO.refl _)
      | (with_reducible exact LeO.none _)
      | (with_reducible refine LeO.ite ?_ ?_)
      | (with_reducible refine LeO.bind ?_ (fun _ => ?_))
      | exact spec_Inverse.mono _ _
      | exact spec_Mul.mono _ _ _
      | exact LeO.none _
      | refine LeO.ite ?_ ?_
      | refine LeO.bind ?_ (fun _ => ?_)
set_option maxHeartbeats 8000000 in
set_option maxRecDepth 100000 in
theorem spec_Div.calls (k : Nat) (a0 : Int) (a1 : Int) (r : Int) (w : World) (h : spec_Div.f k a0 a1 = some r) :
    Calls Tryd.prog 31 #[.int .u8 a0, .int .u8 a1] w fun e w' => e = .returned (.int .u8 r) ∧ Drawn0 w w' := by
  have H : ((spec_Inverse.f k a1).bind fun t121 => ((spec_Mul.f k a0 t121).bind fun t122 => (some t122))) = some r := h
  clear h
  replace H := Option.bind_eq_some_iff.mp H
  obtain ⟨t121, A30, H⟩ := H
  replace H : ((spec_Mul.f k a0 t121).bind fun t122 => (some t122)) = some r := H
  have A3 := Aside0.mk A30
  clear A30
  replace H := Option.bind_eq_some_iff.mp H
  obtain ⟨t122, A40, H⟩ := H
  replace H : (some t122) = some r := H
  have A4 := Aside0.mk A40
  clear A40
  obtain rfl := Option.some.inj H
  go_enter Tryd.func31, Tryd.ntmps31
  go_wp2_with (first | ((with_reducible refine gate_callee (f := 49) rfl ?_); refine goesL_ (some 7) rfl rfl Tryd.func49 (by kernel_rfl) rfl #[.int .u8 a1] rfl (by (try simp only [List.map_toArray, List.map_cons, List.map_nil]); first | done | rfl | (simp only [List.length_drop, List.length_take]; rfl)) ?_; (with_reducible refine (spec_Inverse.calls k a1 t121 _ A3.out).mono ?_); rintro e w' ⟨rfl, ⟨nd, rfl⟩⟩; refine ⟨_, rfl, ?_⟩) | ((with_reducible refine gate_callee (f := 30) rfl ?_); refine goesL_ (some 8) rfl rfl Tryd.func30 (by kernel_rfl) rfl #[.int .u8 a0, .int .u8 t121] rfl (by (try simp only [List.map_toArray, List.map_cons, List.map_nil]); first | done | rfl | (simp only [List.length_drop, List.length_take]; rfl)) ?_; (with_reducible refine (spec_Mul.calls k a0 t121 t122 _ A4.out).mono ?_); rintro e w' ⟨rfl, ⟨nd, rfl⟩⟩; refine ⟨_, rfl, ?_⟩))
  go_ret
  exact ⟨by first | rfl | (simp; done) | (simp [*]; done), by repeat (first | exact Drawn0.refl _ | apply Drawn0.step)⟩

end Go.Proofs.YtladpdeneiaaeaaDoor.PAll
