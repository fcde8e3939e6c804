-- Written by a program of this session (wip/tools)
import Derived.Test.YtladpdeneiaaeaaDoorPAllx0
import Derived.Test.YtladpdeneiaaeaaDoorPAllx1
import Derived.Test.YtladpdeneiaaeaaDoorPAllx2
import Derived.Test.YtladpdeneiaaeaaDoorPAllx3
namespace Go.Proofs.YtladpdeneiaaeaaDoor.PAll
open Go.RowKit Go.Proofs.YtladpdeneiaaeaaDoorW.PrintWords Go.Proofs.YtladpdeneiaaeaaDoorW.PrintLast Go.Proofs.YtladpdeneiaaeaaDoorW.PrintMore
attribute [local go_sem] max2_int min2_int max_two min_two max_three min_three max_four min_four   -- for this text's walks alone
set_option linter.unusedVariables false
set_option linter.unusedSimpArgs false

/-! ### laws_FnFieldInterpolates: function 4 -/
mutual
def laws_FnFieldInterpolates.j0 : Nat → List Int → List Int → Int → Bool → Option (Bool)
  | 0, _, _, _, _ => none
  | k + 1, x0, x1, x2, x26 => if x26 = true then (some true) else (if (x0.length : Int) = 0 then (laws_FnFieldInterpolates.j1 k x0 x1 x2 true) else (if (x0.length : Int) > 24 then (laws_FnFieldInterpolates.j1 k x0 x1 x2 true) else (laws_FnFieldInterpolates.j1 k x0 x1 x2 ((x1.length : Int) != (x0.length : Int)))))
def laws_FnFieldInterpolates.j1 : Nat → List Int → List Int → Int → Bool → Option (Bool)
  | 0, _, _, _, _ => none
  | k + 1, x0, x1, x2, x41 => if x41 = true then (some true) else (laws_FnFieldInterpolates.l0 k x0 x1 x2 x0 (x0.length : Int) 0)
def laws_FnFieldInterpolates.l0 : Nat → List Int → List Int → Int → List Int → Int → Int → Option (Bool)
  | 0, _, _, _, _, _, _ => none
  | k + 1, x0, x1, x2, x42, x43, x44 => if x44 < x43 then (if 0 ≤ x44 then (if x44 < (x42.length : Int) then (if x44 ≤ (x0.length : Int) then (laws_FnFieldInterpolates.l1 k x0 x1 x2 (rd x42 x44) x42 x43 x44 (x0.take (x44 : Int).toNat) ((x0.take (x44 : Int).toNat).length : Int) 0) else (none)) else (none)) else (none)) else (laws_FnFieldInterpolates.l2 k x0 x1 x2 0 x0 (x0.length : Int) 0)
def laws_FnFieldInterpolates.l1 : Nat → List Int → List Int → Int → Int → List Int → Int → Int → List Int → Int → Int → Option (Bool)
  | 0, _, _, _, _, _, _, _, _, _, _ => none
  | k + 1, x0, x1, x2, x8, x42, x43, x44, x51, x52, x53 => if x53 < x52 then (if 0 ≤ x53 then (if x53 < (x51.length : Int) then (if x8 = (rd x51 x53) then (some true) else (laws_FnFieldInterpolates.l1 k x0 x1 x2 x8 x42 x43 x44 x51 x52 (wrap64 (x53 + 1)))) else (none)) else (none)) else (laws_FnFieldInterpolates.l0 k x0 x1 x2 x42 x43 (wrap64 (x44 + 1)))
def laws_FnFieldInterpolates.l2 : Nat → List Int → List Int → Int → Int → List Int → Int → Int → Option (Bool)
  | 0, _, _, _, _, _, _, _ => none
  | k + 1, x0, x1, x2, x11, x62, x63, x64 => if x64 < x63 then (if 0 ≤ x64 then (if x64 < (x62.length : Int) then (if x64 < (x1.length : Int) then (laws_FnFieldInterpolates.l3 k x0 x1 x2 x11 x64 (rd x62 x64) (rd x1 x64) x62 x63 x64 x0 (x0.length : Int) 0) else (none)) else (none)) else (none)) else ((spec_Interpolate.f k x0 x1).bind fun t150 => ((spec_Eval.f k t150 x2).bind fun t153 => (some (x11 == t153))))
def laws_FnFieldInterpolates.l3 : Nat → List Int → List Int → Int → Int → Int → Int → Int → List Int → Int → Int → List Int → Int → Int → Option (Bool)
  | 0, _, _, _, _, _, _, _, _, _, _, _, _, _ => none
  | k + 1, x0, x1, x2, x11, x12, x13, x14, x62, x63, x64, x73, x74, x75 => if x75 < x74 then (if 0 ≤ x75 then (if x75 < (x73.length : Int) then (if x75 = x12 then (laws_FnFieldInterpolates.l3 k x0 x1 x2 x11 x12 x13 x14 x62 x63 x64 x73 x74 (wrap64 (x75 + 1))) else ((impl_Add.f x2 (rd x73 x75)).bind fun t158 => ((impl_Add.f x13 (rd x73 x75)).bind fun t159 => ((impl_Div.f t158 t159).bind fun bt160 => (if bt160.2 = true then ((impl_Mul.f x14 bt160.1).bind fun t162 => (laws_FnFieldInterpolates.l3 k x0 x1 x2 x11 x12 x13 t162 x62 x63 x64 x73 x74 (wrap64 (x75 + 1)))) else (none)))))) else (none)) else (none)) else ((impl_Add.f x11 x14).bind fun t156 => (laws_FnFieldInterpolates.l2 k x0 x1 x2 t156 x62 x63 (wrap64 (x64 + 1))))
end
def laws_FnFieldInterpolates.f (k : Nat) (l0 : List Int) (l1 : List Int) (a2 : Int) : Option (Bool) := if (l0.length : Int) > 2147483647 then (laws_FnFieldInterpolates.j0 k l0 l1 a2 true) else (laws_FnFieldInterpolates.j0 k l0 l1 a2 (decide ((l1.length : Int) > 2147483647)))
theorem laws_FnFieldInterpolates.mono_l : ∀ k, (∀ y0 y1 y2 y3, LeO (laws_FnFieldInterpolates.j0 k y0 y1 y2 y3) (laws_FnFieldInterpolates.j0 (k + 1) y0 y1 y2 y3)) ∧ (∀ y0 y1 y2 y3, LeO (laws_FnFieldInterpolates.j1 k y0 y1 y2 y3) (laws_FnFieldInterpolates.j1 (k + 1) y0 y1 y2 y3)) ∧ (∀ y0 y1 y2 y3 y4 y5, LeO (laws_FnFieldInterpolates.l0 k y0 y1 y2 y3 y4 y5) (laws_FnFieldInterpolates.l0 (k + 1) y0 y1 y2 y3 y4 y5)) ∧ (∀ y0 y1 y2 y3 y4 y5 y6 y7 y8 y9, LeO (laws_FnFieldInterpolates.l1 k y0 y1 y2 y3 y4 y5 y6 y7 y8 y9) (laws_FnFieldInterpolates.l1 (k + 1) y0 y1 y2 y3 y4 y5 y6 y7 y8 y9)) ∧ (∀ y0 y1 y2 y3 y4 y5 y6, LeO (laws_FnFieldInterpolates.l2 k y0 y1 y2 y3 y4 y5 y6) (laws_FnFieldInterpolates.l2 (k + 1) y0 y1 y2 y3 y4 y5 y6)) ∧ (∀ y0 y1 y2 y3 y4 y5 y6 y7 y8 y9 y10 y11 y12, LeO (laws_FnFieldInterpolates.l3 k y0 y1 y2 y3 y4 y5 y6 y7 y8 y9 y10 y11 y12) (laws_FnFieldInterpolates.l3 (k + 1) y0 y1 y2 y3 y4 y5 y6 y7 y8 y9 y10 y11 y12))
  | 0 => ⟨fun _ _ _ _ r h => by simp [laws_FnFieldInterpolates.j0] at h, fun _ _ _ _ r h => by simp [laws_FnFieldInterpolates.j1] at h, fun _ _ _ _ _ _ r h => by simp [laws_FnFieldInterpolates.l0] at h, fun _ _ _ _ _ _ _ _ _ _ r h => by simp [laws_FnFieldInterpolates.l1] at h, fun _ _ _ _ _ _ _ r h => by simp [laws_FnFieldInterpolates.l2] at h, fun _ _ _ _ _ _ _ _ _ _ _ _ _ r h => by simp [laws_FnFieldInterpolates.l3] at h⟩
  | k + 1 => by
    obtain ⟨ih0, ih1, ih2, ih3, ih4, ih5⟩ := laws_FnFieldInterpolates.mono_l k
    refine ⟨?_, ?_, ?_, ?_, ?_, ?_⟩
    · intro y0 y1 y2 y3
      unfold laws_FnFieldInterpolates.j0
      repeat' first
      | (with_reducible exact ih0 _ _ _ _)
      | (with_reducible exact ih1 _ _ _ _)
      | (with_reducible exact ih2 _ _ _ _ _ _)
      | (with_reducible exact ih3 _ _ _ _ _ _ _ _ _ _)
      | (with_reducible exact ih4 _ _ _ _ _ _ _)
      | (with_reducible exact ih5 _ _ _ _ _ _ _ _ _ _ _ _ _)
      | (with_reducible exact spec_Eval.mono _ _ _)
      | (with_reducible exact spec_Interpolate.mono _ _ _)
      | (with_reducible exact LeO.refl _)
      | (with_reducible exact LeO.none _)
      | (with_reducible refine LeO.ite ?_ ?_)
      | (with_reducible refine LeO.bind ?_ (fun _ => ?_))
      | exact ih0 _ _ _ _
      | exact ih1 _ _ _ _
      | exact ih2 _ _ _ _ _ _
      | exact ih3 _ _ _ _ _ _ _ _ _ _
      | exact ih4 _ _ _ _ _ _ _
      | exact ih5 _ _ _ _ _ _ _ _ _ _ _ _ _
      | exact spec_Eval.mono _ _ _
      | exact spec_Interpolate.mono _ _ _
      | exact LeO.none _
      | refine LeO.ite ?_ ?_
      | refine LeO.bind ?_ (fun _ => ?_)
    · intro y0 y1 y2 y3
      unfold laws_FnFieldInterpolates.j1
      repeat' first
      | (with_reducible exact ih0 _ _ _ _)
      | (with_reducible exact ih1 _ _ _ _)
      | (with_reducible exact ih2 _ _ _ _ _ _)
      | (with_reducible exact ih3 _ _ _ _ _ _ _ _ _ _)
      | (with_reducible exact ih4 _ _ _ _ _ _ _)
      | (with_reducible exact ih5 _ _ _ _ _ _ _ _ _ _ _ _ _)
      | (with_reducible exact spec_Eval.mono _ _ _)
      | (with_reducible exact spec_Interpolate.mono _ _ _)
      | (with_reducible exact LeO.refl _)
      | (with_reducible exact LeO.none _)
      | (with_reducible refine LeO.ite ?_ ?_)
      | (with_reducible refine LeO.bind ?_ (fun _ => ?_))
      | exact ih0 _ _ _ _
      | exact ih1 _ _ _ _
      | exact ih2 _ _ _ _ _ _
      | exact ih3 _ _ _ _ _ _ _ _ _ _
      | exact ih4 _ _ _ _ _ _ _
      | exact ih5 _ _ _ _ _ _ _ _ _ _ _ _ _
      | exact spec_Eval.mono _ _ _
      | exact spec_Interpolate.mono _ _ _
      | exact LeO.none _
      | refine LeO.ite ?_ ?_
      | refine LeO.bind ?_ (fun _ => ?_)
    · intro y0 y1 y2 y3 y4 y5
      unfold laws_FnFieldInterpolates.l0
      repeat' first
      | (with_reducible exact ih0 _ _ _ _)
      | (with_reducible exact ih1 _ _ _ _)
      | (with_reducible exact ih2 _ _ _ _ _ _)
      | (with_reducible exact ih3 _ _ _ _ _ _ _ _ _ _)
      | (with_reducible exact ih4 _ _ _ _ _ _ _)
      | (with_reducible exact ih5 _ _ _ _ _ _ _ _ _ _ _ _ _)
      | (with_reducible exact spec_Eval.mono _ _ _)
      | (with_reducible exact spec_Interpolate.mono _ _ _)
      | (with_reducible exact LeO.refl _)
      | (with_reducible exact LeO.none _)
      | (with_reducible refine LeO.ite ?_ ?_)
      | (with_reducible refine LeO.bind ?_ (fun _ => ?_))
      | exact ih0 _ _ _ _
      | exact ih1 _ _ _ _
      | exact ih2 _ _ _ _ _ _
      | exact ih3 _ _ _ _ _ _ _ _ _ _
      | exact ih4 _ _ _ _ _ _ _
      | exact ih5 _ _ _ _ _ _ _ _ _ _ _ _ _
      | exact spec_Eval.mono _ _ _
      | exact spec_Interpolate.mono _ _ _
      | exact LeO.none _
      | refine LeO.ite ?_ ?_
      | refine LeO.bind ?_ (fun _ => ?_)
    · intro y0 y1 y2 y3 y4 y5 y6 y7 y8 y9
      unfold laws_FnFieldInterpolates.l1
      repeat' first
      | (with_reducible exact ih0 _ _ _ _)
      | (with_reducible exact ih1 _ _ _ _)
      | (with_reducible exact ih2 _ _ _ _ _ _)
      | (with_reducible exact ih3 _ _ _ _ _ _ _ _ _ _)
      | (with_reducible exact ih4 _ _ _ _ _ _ _)
      | (with_reducible exact ih5 _ _ _ _ _ _ _ _ _ _ _ _ _)
      | (with_reducible exact spec_Eval.mono _ _ _)
      | (with_reducible exact spec_Interpolate.mono _ _ _)
      | (with_reducible exact LeO.refl _)
      | (with_reducible exact LeO.none _)
      | (with_reducible refine LeO.ite ?_ ?_)
      | (with_reducible refine LeO.bind ?_ (fun _ => ?_))
      | exact ih0 _ _ _ _
      | exact ih1 _ _ _ _
      | exact ih2 _ _ _ _ _ _
      | exact ih3 _ _ _ _ _ _ _ _ _ _
      | exact ih4 _ _ _ _ _ _ _
      | exact ih5 _ _ _ _ _ _ _ _ _ _ _ _ _
      | exact spec_Eval.mono _ _ _
      | exact spec_Interpolate.mono _ _ _
      | exact LeO.none _
      | refine LeO.ite ?_ ?_
      | refine LeO.bind ?_ (fun _ => ?_)
    · intro y0 y1 y2 y3 y4 y5 y6
      unfold laws_FnFieldInterpolates.l2
      repeat' first
      | (with_reducible exact ih0 _ _ _ _)
      | (with_reducible exact ih1 _ _ _ _)
      | (with_reducible exact ih2 _ _ _ _ _ _)
      | (with_reducible exact ih3 _ _ _ _ _ _ _ _ _ _)
      | (with_reducible exact ih4 _ _ _ _ _ _ _)
      | (with_reducible exact ih5 _ _ _ _ _ _ _ _ _ _ _ _ _)
      | (with_reducible exact spec_Eval.mono _ _ _)
      | (with_reducible exact spec_Interpolate.mono _ _ _)
      | (with_reducible exact LeO.refl _)
      | (with_reducible exact LeO.none _)
      | (with_reducible refine LeO.ite ?_ ?_)
      | (with_reducible refine LeO.bind ?_ (fun _ => ?_))
      | exact ih0 _ _ _ _
      | exact ih1 _ _ _ _
      | exact ih2 _ _ _ _ _ _
      | exact ih3 _ _ _ _ _ _ _ _ _ _
      | exact ih4 _ _ _ _ _ _ _
      | exact ih5 _ _ _ _ _ _ _ _ _ _ _ _ _
      | exact spec_Eval.mono _ _ _
      | exact spec_Interpolate.mono _ _ _
      | exact LeO.none _
      | refine LeO.ite ?_ ?_
      | refine LeO.bind ?_ (fun _ => ?_)
    · intro y0 y1 y2 y3 y4 y5 y6 y7 y8 y9 y10 y11 y12
      unfold laws_FnFieldInterpolates.l3
      repeat' first
      | (with_reducible exact ih0 _ _ _ _)
      | (with_reducible exact ih1 _ _ _ _)
      | (with_reducible exact ih2 _ _ _ _ _ _)
      | (with_reducible exact ih3 _ _ _ _ _ _ _ _ _ _)
      | (with_reducible exact ih4 _ _ _ _ _ _ _)
      | (with_reducible exact ih5 _ _ _ _ _ _ _ _ _ _ _ _ _)
      | (with_reducible exact spec_Eval.mono _ _ _)
      | (with_reducible exact spec_Interpolate.mono _ _ _)
      | (with_reducible exact LeO.refl _)
      | (with_reducible exact LeO.none _)
      | (with_reducible refine LeO.ite ?_ ?_)
      | (with_reducible refine LeO.bind ?_ (fun _ => ?_))
      | exact ih0 _ _ _ _
      | exact ih1 _ _ _ _
      | exact ih2 _ _ _ _ _ _
      | exact ih3 _ _ _ _ _ _ _ _ _ _
      | exact ih4 _ _ _ _ _ _ _
      | exact ih5 _ _ _ _ _ _ _ _ _ _ _ _ _
      | exact spec_Eval.mono _ _ _
      | exact spec_Interpolate.mono _ _ _
      | exact LeO.none _
      | refine LeO.ite ?_ ?_
      | refine LeO.bind ?_ (fun _ => ?_)
theorem laws_FnFieldInterpolates.mono : ∀ a0 a1 a2 k, LeO (laws_FnFieldInterpolates.f k a0 a1 a2) (laws_FnFieldInterpolates.f (k + 1) a0 a1 a2) := by
  intro a0 a1 a2 k
  obtain ⟨ih0, ih1, ih2, ih3, ih4, ih5⟩ := laws_FnFieldInterpolates.mono_l k
  unfold laws_FnFieldInterpolates.f
  repeat' first
      | (with_reducible exact ih0 _ _ _ _)
      | (with_reducible exact ih1 _ _ _ _)
      | (with_reducible exact ih2 _ _ _ _ _ _)
      | (with_reducible exact ih3 _ _ _ _ _ _ _ _ _ _)
      | (with_reducible exact ih4 _ _ _ _ _ _ _)
      | (with_reducible exact ih5 _ _ _ _ _ _ _ _ _ _ _ _ _)
      | (with_reducible exact spec_Eval.mono _ _ _)
      | (with_reducible exact spec_Interpolate.mono _ _ _)
      | (with_reducible exact LeO.refl _)
      | (with_reducible exact LeO.none _)
      | (with_reducible refine LeO.ite ?_ ?_)
      | (with_reducible refine LeO.bind ?_ (fun _ => ?_))
      | exact ih0 _ _ _ _
      | exact ih1 _ _ _ _
      | exact ih2 _ _ _ _ _ _
      | exact ih3 _ _ _ _ _ _ _ _ _ _
      | exact ih4 _ _ _ _ _ _ _
      | exact ih5 _ _ _ _ _ _ _ _ _ _ _ _ _
      | exact spec_Eval.mono _ _ _
      | exact spec_Interpolate.mono _ _ _
      | exact LeO.none _
      | refine LeO.ite ?_ ?_
      | refine LeO.bind ?_ (fun _ => ?_)
set_option maxHeartbeats 8000000 in
set_option maxRecDepth 100000 in
theorem laws_FnFieldInterpolates.calls (k : Nat) (A0 : Option Addr) (c0 : Nat) (l0 : List Int) (A1 : Option Addr) (c1 : Nat) (l1 : List Int) (a2 : Int) (r : Bool) (w : World) (hG : Glob w) (hr0 : Kd.C (Kd.int .u8) w A0 l0.length l0) (hc0 : l0.length ≤ c0) (hr1 : Kd.C (Kd.int .u8) w A1 l1.length l1) (hc1 : l1.length ≤ c1) (h : laws_FnFieldInterpolates.f k l0 l1 a2 = some r) :
    Calls Tryd.prog 4 #[.slice A0 l0.length c0, .slice A1 l1.length c1, .int .u8 a2] w fun e w' => e = .returned (.bool r) ∧ Below w.heap.size w w' := by
  have HR0 := Aside0.mk hr0
  have HC0 := Aside0.mk hc0
  clear hr0 hc0
  have HR1 := Aside0.mk hr1
  have HC1 := Aside0.mk hc1
  clear hr1 hc1
  have HB := Aside0.mk (Below.refl w.heap.size w)
  have H : (if (l0.length : Int) > 2147483647 then (laws_FnFieldInterpolates.j0 k l0 l1 a2 true) else (laws_FnFieldInterpolates.j0 k l0 l1 a2 (decide ((l1.length : Int) > 2147483647)))) = some r := h
  clear h
  have HC4 := Aside0.mk H
  clear H
  go_enter Tryd.func4, Tryd.ntmps4
  go_upto_region 1 with (fail)
  go_cut [26] (fun v26 wc => ∃ (kq : Nat) (x26_3 : Bool), v26 = .bool x26_3 ∧ Aside0 (laws_FnFieldInterpolates.j0 kq l0 l1 a2 x26_3 = some r) ∧ Aside0 (kq ≤ k) ∧ Aside0 (Below w.heap.size w wc))
  case first =>
    have H := HC4.out
    clear HC4
    by_cases c5 : (l0.length : Int) > 2147483647
    · rw [if_pos c5] at H
      have c5b0 : decide (2147483647 < (l0.length : Int)) = true := decide_eq_true c5
      have c5b1 : decide (2147483647 < l0.length) = true := decide_eq_true (by omega)
      clear c5
      (first | rw [c5b0] | (simp only [i64_w, i32_w]; rw [c5b0]) | skip)
      have H' := Aside0.mk H
      clear H
      go_wp2
      go_meet
      case rel => exact ⟨_, (true), (by first | rfl | (simp; done) | (simp [*]; done)), H', ⟨by first | omega | exact Nat.le_refl _⟩, ⟨by repeat (first | (with_reducible first | exact HB.out | apply below_alloc | apply pw_below_drewN | apply below_drew1) | exact HB.out)⟩⟩
    · rw [if_neg c5] at H
      have c5b0 : decide (2147483647 < (l0.length : Int)) = false := decide_eq_false c5
      have c5b1 : decide (2147483647 < l0.length) = false := decide_eq_false (by omega)
      clear c5
      (first | rw [c5b0] | (simp only [i64_w, i32_w]; rw [c5b0]) | skip)
      have H' := Aside0.mk H
      clear H
      go_wp2
      go_meet
      case rel => exact ⟨_, (decide ((l1.length : Int) > 2147483647)), (by first | rfl | (simp; done) | (simp [*]; done)), H', ⟨by first | omega | exact Nat.le_refl _⟩, ⟨by repeat (first | (with_reducible first | exact HB.out | apply below_alloc | apply pw_below_drewN | apply below_drew1) | exact HB.out)⟩⟩
  case rest =>
    clear HC4
    try clear c1
    try clear p2
    try clear c4
    try clear c5
    try clear c5b0
    try clear c5b1
    obtain ⟨kq, x26_3, rfl, HA, HJ3, HB⟩ := hcut
    cases kq with
    | zero => exact absurd HA.out (by simp [laws_FnFieldInterpolates.j0])
    | succ kj3 =>
      have H := HA.out
      clear HA
      simp only [laws_FnFieldInterpolates.j0] at H
      by_cases c6 : x26_3 = true
      · subst c6
        have H1 : (some true) = some r := by rw [if_pos rfl] at H; exact H
        clear H
        have H := H1
        clear H1
        obtain rfl := Option.some.inj H
        go_wp2
        go_ret
        exact ⟨by first | rfl | (simp [errW_none, errW_some] <;> rfl) | (simp [*, errW_none, errW_some] <;> rfl), by repeat (first | (with_reducible first | exact HB.out | apply below_alloc | apply pw_below_drewN | apply below_drew1) | exact HB.out)⟩
      · replace c6 := Bool.eq_false_iff.mpr c6
        subst c6
        have H1 : (if (l0.length : Int) = 0 then (laws_FnFieldInterpolates.j1 kj3 l0 l1 a2 true) else (if (l0.length : Int) > 24 then (laws_FnFieldInterpolates.j1 kj3 l0 l1 a2 true) else (laws_FnFieldInterpolates.j1 kj3 l0 l1 a2 ((l1.length : Int) != (l0.length : Int))))) = some r := by rw [if_neg (show ¬ (false = true) by decide)] at H; exact H
        clear H
        have H := H1
        clear H1
        have HC7 := Aside0.mk H
        clear H
        go_upto_region 3 with (fail)
        go_cut [41] (fun v41 wc => ∃ (kq : Nat) (x41_6 : Bool), v41 = .bool x41_6 ∧ Aside0 (laws_FnFieldInterpolates.j1 kq l0 l1 a2 x41_6 = some r) ∧ Aside0 (kq ≤ kj3) ∧ Aside0 (Below w.heap.size w wc))
        case first =>
          have H := HC7.out
          clear HC7
          by_cases c8 : (l0.length : Int) = 0
          · rw [if_pos c8] at H
            have c8b0 : ((l0.length : Int) == 0) = true := beq_iff_eq.mpr c8
            have c8b1 : ((l0.length : Int) != 0) = false := bne_eq_false_iff_eq.mpr c8
            clear c8
            (first | rw [c8b0] | (simp only [i64_w, i32_w]; rw [c8b0]) | skip)
            have H' := Aside0.mk H
            clear H
            go_wp2
            go_meet
            case rel => exact ⟨_, (true), (by first | rfl | (simp; done) | (simp [*]; done)), H', ⟨by have := HJ3.out; first | omega | exact Nat.le_refl _⟩, ⟨by repeat (first | (with_reducible first | exact HB.out | apply below_alloc | apply pw_below_drewN | apply below_drew1) | exact HB.out)⟩⟩
          · rw [if_neg c8] at H
            have c8b0 : ((l0.length : Int) == 0) = false := beq_eq_false_iff_ne.mpr c8
            have c8b1 : ((l0.length : Int) != 0) = true := bne_iff_ne.mpr c8
            have c8b2 : ¬ (l0 = []) := fun h_ => c8 (by rw [h_]; rfl)
            (first | rw [c8b0] | (simp only [i64_w, i32_w]; rw [c8b0]) | skip)
            by_cases c9 : (l0.length : Int) > 24
            · rw [if_pos c9] at H
              have c9b0 : decide (24 < (l0.length : Int)) = true := decide_eq_true c9
              have c9b1 : decide (24 < l0.length) = true := decide_eq_true (by omega)
              clear c9
              have H' := Aside0.mk H
              clear H
              go_wp2
              go_meet
              case rel => exact ⟨_, (true), (by first | rfl | (simp; done) | (simp [*]; done)), H', ⟨by have := HJ3.out; first | omega | exact Nat.le_refl _⟩, ⟨by repeat (first | (with_reducible first | exact HB.out | apply below_alloc | apply pw_below_drewN | apply below_drew1) | exact HB.out)⟩⟩
            · rw [if_neg c9] at H
              have c9b0 : decide (24 < (l0.length : Int)) = false := decide_eq_false c9
              have c9b1 : decide (24 < l0.length) = false := decide_eq_false (by omega)
              clear c9
              have H' := Aside0.mk H
              clear H
              go_wp2
              go_meet
              case rel => exact ⟨_, (((l1.length : Int) != (l0.length : Int))), (by first | rfl | (simp; done) | (simp [*]; done)), H', ⟨by have := HJ3.out; first | omega | exact Nat.le_refl _⟩, ⟨by repeat (first | (with_reducible first | exact HB.out | apply below_alloc | apply pw_below_drewN | apply below_drew1) | exact HB.out)⟩⟩
        case rest =>
          clear HC7
          try clear c1
          try clear p2
          try clear c4
          try clear c5
          try clear c5b0
          try clear c5b1
          try clear c6
          try clear c8
          try clear c8b0
          try clear c8b1
          try clear c8b2
          try clear c9
          try clear c9b0
          try clear c9b1
          try clear p2
          obtain ⟨kq, x41_6, rfl, HA, HJ6, HB⟩ := hcut
          cases kq with
          | zero => exact absurd HA.out (by simp [laws_FnFieldInterpolates.j1])
          | succ kj6 =>
            have H := HA.out
            clear HA
            simp only [laws_FnFieldInterpolates.j1] at H
            by_cases c10 : x41_6 = true
            · subst c10
              have H1 : (some true) = some r := by rw [if_pos rfl] at H; exact H
              clear H
              have H := H1
              clear H1
              obtain rfl := Option.some.inj H
              go_wp2
              go_ret
              exact ⟨by first | rfl | (simp [errW_none, errW_some] <;> rfl) | (simp [*, errW_none, errW_some] <;> rfl), by repeat (first | (with_reducible first | exact HB.out | apply below_alloc | apply pw_below_drewN | apply below_drew1) | exact HB.out)⟩
            · replace c10 := Bool.eq_false_iff.mpr c10
              subst c10
              have H1 : (laws_FnFieldInterpolates.l0 kj6 l0 l1 a2 l0 (l0.length : Int) 0) = some r := by rw [if_neg (show ¬ (false = true) by decide)] at H; exact H
              clear H
              have H := H1
              clear H1
              have H' := Aside0.mk H
              clear H
              go_wp2
              try simp only [Act.put, List.setIfInBounds_toArray, List.set_cons_zero, List.set_cons_succ]
              go_loopg [44] kj6 (fun kq v44 w' => ∃ (x44_3 : Int), v44 = .int .i64 x44_3 ∧ Aside0 (laws_FnFieldInterpolates.l0 kq l0 l1 a2 l0 (l0.length : Int) x44_3 = some r) ∧ Aside0 (kq ≤ kj6) ∧ Aside0 (Below w.heap.size w w'))
              case atStart => exact ⟨(0), (by first | rfl | (simp; done) | (simp [*]; done)), H', ⟨Nat.le_refl _⟩, ⟨by repeat (first | (with_reducible first | exact HB.out | apply below_alloc | apply pw_below_drewN | apply below_drew1) | exact HB.out)⟩⟩
              case round =>
                clear H'
                try clear c1
                try clear p2
                try clear c4
                try clear c5
                try clear c5b0
                try clear c5b1
                try clear c6
                try clear c8
                try clear c8b0
                try clear c8b1
                try clear c8b2
                try clear c9
                try clear c9b0
                try clear c9b1
                try clear c10
                try clear p2
                obtain ⟨x44_3, rfl, HA, HK3, HB⟩ := hrel
                cases gk with
                | zero => exact absurd HA.out (by simp [laws_FnFieldInterpolates.l0])
                | succ k3 =>
                  have H := HA.out
                  clear HA
                  simp only [laws_FnFieldInterpolates.l0] at H
                  by_cases c11 : x44_3 < (l0.length : Int)
                  · rw [if_pos c11] at H
                    have c11b0 : decide (x44_3 < (l0.length : Int)) = true := decide_eq_true c11
                    clear c11
                    by_cases c12 : 0 ≤ x44_3
                    · rw [if_pos c12] at H
                      have c12b0 : decide (0 ≤ x44_3) = true := decide_eq_true c12
                      clear c12
                      by_cases c13 : x44_3 < (l0.length : Int)
                      · rw [if_pos c13] at H
                        have c13b0 : decide (x44_3 < (l0.length : Int)) = true := decide_eq_true c13
                        clear c13
                        have c14b0 := eq_true (of_decide_eq_true (by first | (with_reducible assumption) | assumption) : 0 ≤ x44_3)
                        by_cases c15 : x44_3 ≤ (l0.length : Int)
                        · rw [if_pos c15] at H
                          have c15b0 := eq_true c15
                          have c15b1 : decide (x44_3 ≤ (l0.length : Int)) = true := decide_eq_true c15
                          clear c15
                          have H' := Aside0.mk H
                          clear H
                          have p147 : 0 ≤ (x44_3 : Int) := of_decide_eq_true (by first | (with_reducible assumption) | assumption)
                          have q147 : x44_3 < (l0.length : Int) := of_decide_eq_true (by first | (with_reducible assumption) | assumption)
                          obtain ⟨ad147, e147, hx147_0⟩ := Kd.at_int HR0.out x44_3 p147 q147
                          cases e147
                          replace hx147_0 := (HB.out.cell (World.block_lt_of_cell? w _ hx147_0)).trans hx147_0
                          replace p147 := eq_true p147
                          replace q147 := eq_true q147
                          obtain ⟨i016, hi016, _, hsz16, _⟩ := info_parts info5
                          obtain ⟨hcut16, hA16, hC16⟩ := print_take_of (P := Tryd.prog) (Value.int .u8) 0 25 5 .i64 Tryd.underlying25 hi016 hsz16 (some ad147) c0 l0 x44_3 (of_decide_eq_true (by first | (with_reducible assumption) | assumption)) (of_decide_eq_true (by first | (with_reducible assumption) | assumption)) HC0.out
                          have HR148 := Aside0.mk (Kd.C_of_reads (h1 := fun _ => rfl) (hA16 _ (Kd.reads_of_C HR0.out)))
                          have HC148 := Aside0.mk hC16
                          clear hA16 hC16 hi016 hsz16
                          have ht_ : ((l0.take (x44_3 : Int).toNat).length : Int) = max x44_3 0 := by have h1_ := of_eq_true p147; have h2_ := of_eq_true q147; rw [List.length_take]; omega
                          go_wp2
                          try simp only [Act.put, List.setIfInBounds_toArray, List.set_cons_zero, List.set_cons_succ]
                          go_loopg [53] k3 (fun kq v53 w' => ∃ (x53_4 : Int), v53 = .int .i64 x53_4 ∧ Aside0 (laws_FnFieldInterpolates.l1 kq l0 l1 a2 (rd l0 x44_3) l0 (l0.length : Int) x44_3 (l0.take (x44_3 : Int).toNat) ((l0.take (x44_3 : Int).toNat).length : Int) x53_4 = some r) ∧ Aside0 (kq ≤ k3) ∧ Aside0 (Below w.heap.size w w'))
                          case atStart => exact ⟨(0), (by first | rfl | (simp; done) | (simp [*]; done)), H', ⟨Nat.le_refl _⟩, ⟨by repeat (first | (with_reducible first | exact HB.out | apply below_alloc | apply pw_below_drewN | apply below_drew1) | exact HB.out)⟩⟩
                          case round =>
                            clear H'
                            try clear c1
                            try clear p1
                            try clear q1
                            try clear hx1
                            try clear p2
                            try clear c4
                            try clear c5
                            try clear c5b0
                            try clear c5b1
                            try clear c6
                            try clear c8
                            try clear c8b0
                            try clear c8b1
                            try clear c8b2
                            try clear c9
                            try clear c9b0
                            try clear c9b1
                            try clear c10
                            try clear c11
                            try clear c11b0
                            try clear c12
                            try clear c12b0
                            try clear c13
                            try clear c13b0
                            try clear c14
                            try clear c14b0
                            try clear p14
                            try clear q14
                            try clear hx14
                            try clear c15
                            try clear c15b0
                            try clear c15b1
                            try clear hx147_0
                            try clear p147
                            try clear p2
                            try clear q147
                            obtain ⟨x53_4, rfl, HA, HK4, HB⟩ := hrel
                            cases gk with
                            | zero => exact absurd HA.out (by simp [laws_FnFieldInterpolates.l1])
                            | succ k4 =>
                              have H := HA.out
                              clear HA
                              simp only [laws_FnFieldInterpolates.l1] at H
                              by_cases c17 : x53_4 < ((l0.take (x44_3 : Int).toNat).length : Int)
                              · rw [if_pos c17] at H
                                have c17b0 : decide (x53_4 < ((l0.take (x44_3 : Int).toNat).length : Int)) = true := decide_eq_true c17
                                have c17b07 : decide (x53_4 < max x44_3 0) = true := by rw [← ht_]; exact c17b0
                                clear c17
                                by_cases c18 : 0 ≤ x53_4
                                · rw [if_pos c18] at H
                                  have c18b0 : decide (0 ≤ x53_4) = true := decide_eq_true c18
                                  clear c18
                                  by_cases c19 : x53_4 < ((l0.take (x44_3 : Int).toNat).length : Int)
                                  · rw [if_pos c19] at H
                                    have c19b0 : decide (x53_4 < ((l0.take (x44_3 : Int).toNat).length : Int)) = true := decide_eq_true c19
                                    have c19b07 : decide (x53_4 < max x44_3 0) = true := by rw [← ht_]; exact c19b0
                                    clear c19
                                    by_cases c20 : (rd l0 x44_3) = (rd (l0.take (x44_3 : Int).toNat) x53_4)
                                    · rw [if_pos c20] at H
                                      have c20b0 : ((rd l0 x44_3) == (rd (l0.take (x44_3 : Int).toNat) x53_4)) = true := beq_iff_eq.mpr c20
                                      have c20b1 : ((rd l0 x44_3) != (rd (l0.take (x44_3 : Int).toNat) x53_4)) = false := bne_eq_false_iff_eq.mpr c20
                                      clear c20
                                      obtain rfl := Option.some.inj H
                                      have p149 : 0 ≤ (x53_4 : Int) := of_decide_eq_true (by first | (with_reducible assumption) | assumption)
                                      have q149 : x53_4 < ((l0.take (x44_3 : Int).toNat).length : Int) := of_decide_eq_true (by first | (with_reducible assumption) | assumption)
                                      have q1497 : x53_4 < max x44_3 0 := by rw [← ht_]; exact q149
                                      obtain ⟨ad149, e149, hx149_0⟩ := Kd.at_int HR148.out x53_4 p149 q149
                                      obtain rfl : ad147 = ad149 := (by injection e149)
                                      replace hx149_0 := (HB.out.cell (World.block_lt_of_cell? w _ hx149_0)).trans hx149_0
                                      replace p149 := eq_true p149
                                      replace q149 := eq_true q149
                                      go_wp2
                                      go_ret
                                      exact ⟨by first | rfl | (simp [errW_none, errW_some] <;> rfl) | (simp [*, errW_none, errW_some] <;> rfl), by repeat (first | (with_reducible first | exact HB.out | apply below_alloc | apply pw_below_drewN | apply below_drew1) | exact HB.out)⟩
                                    · rw [if_neg c20] at H
                                      have c20b0 : ((rd l0 x44_3) == (rd (l0.take (x44_3 : Int).toNat) x53_4)) = false := beq_eq_false_iff_ne.mpr c20
                                      have c20b1 : ((rd l0 x44_3) != (rd (l0.take (x44_3 : Int).toNat) x53_4)) = true := bne_iff_ne.mpr c20
                                      have H' := Aside0.mk H
                                      clear H
                                      have p149 : 0 ≤ (x53_4 : Int) := of_decide_eq_true (by first | (with_reducible assumption) | assumption)
                                      have q149 : x53_4 < ((l0.take (x44_3 : Int).toNat).length : Int) := of_decide_eq_true (by first | (with_reducible assumption) | assumption)
                                      have q1497 : x53_4 < max x44_3 0 := by rw [← ht_]; exact q149
                                      obtain ⟨ad149, e149, hx149_0⟩ := Kd.at_int HR148.out x53_4 p149 q149
                                      obtain rfl : ad147 = ad149 := (by injection e149)
                                      replace hx149_0 := (HB.out.cell (World.block_lt_of_cell? w _ hx149_0)).trans hx149_0
                                      replace p149 := eq_true p149
                                      replace q149 := eq_true q149
                                      go_wp2
                                      go_roundg k4
                                      case measure => have := HJ3.out; have := HJ6.out; have := HK3.out; have := HK4.out; omega
                                      case rel => exact ⟨(wrap64 (x53_4 + 1)), (by first | rfl | (simp; done) | (simp [*]; done)), H', ⟨by have := HJ3.out; have := HJ6.out; have := HK3.out; have := HK4.out; omega⟩, ⟨by repeat (first | (with_reducible first | exact HB.out | apply below_alloc | apply pw_below_drewN | apply below_drew1) | exact HB.out)⟩⟩
                                  · rw [if_neg c19] at H
                                    exact absurd H (by simp)
                                · rw [if_neg c18] at H
                                  exact absurd H (by simp)
                              · rw [if_neg c17] at H
                                have c17b0 : decide (x53_4 < ((l0.take (x44_3 : Int).toNat).length : Int)) = false := decide_eq_false c17
                                have c17b07 : decide (x53_4 < max x44_3 0) = false := by rw [← ht_]; exact c17b0
                                clear c17
                                have H' := Aside0.mk H
                                clear H
                                go_wp2
                                go_roundg k4
                                case measure => have := HJ3.out; have := HJ6.out; have := HK3.out; have := HK4.out; omega
                                case rel => exact ⟨(wrap64 (x44_3 + 1)), (by first | rfl | (simp; done) | (simp [*]; done)), H', ⟨by have := HJ3.out; have := HJ6.out; have := HK3.out; have := HK4.out; omega⟩, ⟨by repeat (first | (with_reducible first | exact HB.out | apply below_alloc | apply pw_below_drewN | apply below_drew1) | exact HB.out)⟩⟩
                        · rw [if_neg c15] at H
                          exact absurd H (by simp)
                      · rw [if_neg c13] at H
                        exact absurd H (by simp)
                    · rw [if_neg c12] at H
                      exact absurd H (by simp)
                  · rw [if_neg c11] at H
                    have c11b0 : decide (x44_3 < (l0.length : Int)) = false := decide_eq_false c11
                    clear c11
                    have H' := Aside0.mk H
                    clear H
                    go_wp2
                    try simp only [Act.put, List.setIfInBounds_toArray, List.set_cons_zero, List.set_cons_succ]
                    go_loopg [11, 64] k3 (fun kq v11 v64 w' => ∃ (x11_4 : Int) (x64_4 : Int), v11 = .int .u8 x11_4 ∧ v64 = .int .i64 x64_4 ∧ Aside0 (laws_FnFieldInterpolates.l2 kq l0 l1 a2 x11_4 l0 (l0.length : Int) x64_4 = some r) ∧ Aside0 (kq ≤ k3) ∧ Aside0 (Below w.heap.size w w'))
                    case atStart => exact ⟨(0), (0), (by first | rfl | (simp; done) | (simp [*]; done)), (by first | rfl | (simp; done) | (simp [*]; done)), H', ⟨Nat.le_refl _⟩, ⟨by repeat (first | (with_reducible first | exact HB.out | apply below_alloc | apply pw_below_drewN | apply below_drew1) | exact HB.out)⟩⟩
                    case round =>
                      clear H'
                      try clear c1
                      try clear p1
                      try clear q1
                      try clear hx1
                      try clear c2
                      try clear p2
                      try clear c4
                      try clear c5
                      try clear c5b0
                      try clear c5b1
                      try clear c6
                      try clear p6
                      try clear c8
                      try clear c8b0
                      try clear c8b1
                      try clear c8b2
                      try clear c9
                      try clear c9b0
                      try clear c9b1
                      try clear c10
                      try clear c11
                      try clear c11b0
                      try clear c12
                      try clear c12b0
                      try clear c13
                      try clear c13b0
                      try clear c14
                      try clear c14b0
                      try clear p14
                      try clear q14
                      try clear hx14
                      try clear c15
                      try clear c15b0
                      try clear c15b1
                      try clear c17
                      try clear c17b0
                      try clear c18
                      try clear c18b0
                      try clear c19
                      try clear c19b0
                      try clear c20
                      try clear c20b0
                      try clear c20b1
                      try clear hx147_0
                      try clear hx149_0
                      try clear p1
                      try clear p14
                      try clear p147
                      try clear p149
                      try clear p2
                      try clear q1
                      try clear q14
                      try clear q147
                      try clear q149
                      obtain ⟨x11_4, x64_4, rfl, rfl, HA, HK4, HB⟩ := hrel
                      cases gk with
                      | zero => exact absurd HA.out (by simp [laws_FnFieldInterpolates.l2])
                      | succ k4 =>
                        have H := HA.out
                        clear HA
                        simp only [laws_FnFieldInterpolates.l2] at H
                        by_cases c21 : x64_4 < (l0.length : Int)
                        · rw [if_pos c21] at H
                          have c21b0 : decide (x64_4 < (l0.length : Int)) = true := decide_eq_true c21
                          clear c21
                          by_cases c22 : 0 ≤ x64_4
                          · rw [if_pos c22] at H
                            have c22b0 : decide (0 ≤ x64_4) = true := decide_eq_true c22
                            clear c22
                            by_cases c23 : x64_4 < (l0.length : Int)
                            · rw [if_pos c23] at H
                              have c23b0 : decide (x64_4 < (l0.length : Int)) = true := decide_eq_true c23
                              clear c23
                              by_cases c24 : x64_4 < (l1.length : Int)
                              · rw [if_pos c24] at H
                                have c24b0 : decide (x64_4 < (l1.length : Int)) = true := decide_eq_true c24
                                clear c24
                                have H' := Aside0.mk H
                                clear H
                                have p154 : 0 ≤ (x64_4 : Int) := of_decide_eq_true (by first | (with_reducible assumption) | assumption)
                                have q154 : x64_4 < (l0.length : Int) := of_decide_eq_true (by first | (with_reducible assumption) | assumption)
                                obtain ⟨ad154, e154, hx154_0⟩ := Kd.at_int HR0.out x64_4 p154 q154
                                cases e154
                                replace hx154_0 := (HB.out.cell (World.block_lt_of_cell? w _ hx154_0)).trans hx154_0
                                replace p154 := eq_true p154
                                replace q154 := eq_true q154
                                have p155 : 0 ≤ (x64_4 : Int) := of_decide_eq_true (by first | (with_reducible assumption) | assumption)
                                have q155 : x64_4 < (l1.length : Int) := of_decide_eq_true (by first | (with_reducible assumption) | assumption)
                                obtain ⟨ad155, e155, hx155_0⟩ := Kd.at_int HR1.out x64_4 p155 q155
                                cases e155
                                replace hx155_0 := (HB.out.cell (World.block_lt_of_cell? w _ hx155_0)).trans hx155_0
                                replace p155 := eq_true p155
                                replace q155 := eq_true q155
                                go_wp2
                                try simp only [Act.put, List.setIfInBounds_toArray, List.set_cons_zero, List.set_cons_succ]
                                go_loopg [14, 75] k4 (fun kq v14 v75 w' => ∃ (x14_5 : Int) (x75_5 : Int), v14 = .int .u8 x14_5 ∧ v75 = .int .i64 x75_5 ∧ Aside0 (laws_FnFieldInterpolates.l3 kq l0 l1 a2 x11_4 x64_4 (rd l0 x64_4) x14_5 l0 (l0.length : Int) x64_4 l0 (l0.length : Int) x75_5 = some r) ∧ Aside0 (kq ≤ k4) ∧ Aside0 (Below w.heap.size w w'))
                                case atStart => exact ⟨(rd l1 x64_4), (0), (by first | rfl | (simp; done) | (simp [*]; done)), (by first | rfl | (simp; done) | (simp [*]; done)), H', ⟨Nat.le_refl _⟩, ⟨by repeat (first | (with_reducible first | exact HB.out | apply below_alloc | apply pw_below_drewN | apply below_drew1) | exact HB.out)⟩⟩
                                case round =>
                                  clear H'
                                  try clear c1
                                  try clear p1
                                  try clear q1
                                  try clear hx1
                                  try clear c2
                                  try clear p2
                                  try clear c4
                                  try clear c5
                                  try clear c5b0
                                  try clear c5b1
                                  try clear c6
                                  try clear p6
                                  try clear c8
                                  try clear c8b0
                                  try clear c8b1
                                  try clear c8b2
                                  try clear c9
                                  try clear c9b0
                                  try clear c9b1
                                  try clear c10
                                  try clear c11
                                  try clear c11b0
                                  try clear c12
                                  try clear c12b0
                                  try clear c13
                                  try clear c13b0
                                  try clear c14
                                  try clear c14b0
                                  try clear p14
                                  try clear q14
                                  try clear hx14
                                  try clear c15
                                  try clear c15b0
                                  try clear c15b1
                                  try clear p15
                                  try clear q15
                                  try clear hx15
                                  try clear c17
                                  try clear c17b0
                                  try clear c18
                                  try clear c18b0
                                  try clear c19
                                  try clear c19b0
                                  try clear c20
                                  try clear c20b0
                                  try clear c20b1
                                  try clear c21
                                  try clear c21b0
                                  try clear c22
                                  try clear c22b0
                                  try clear c23
                                  try clear c23b0
                                  try clear c24
                                  try clear c24b0
                                  try clear hx147_0
                                  try clear hx149_0
                                  try clear hx154_0
                                  try clear hx155_0
                                  try clear p1
                                  try clear p14
                                  try clear p147
                                  try clear p149
                                  try clear p154
                                  try clear p155
                                  try clear p2
                                  try clear p6
                                  try clear q1
                                  try clear q14
                                  try clear q147
                                  try clear q149
                                  try clear q154
                                  try clear q155
                                  obtain ⟨x14_5, x75_5, rfl, rfl, HA, HK5, HB⟩ := hrel
                                  cases gk with
                                  | zero => exact absurd HA.out (by simp [laws_FnFieldInterpolates.l3])
                                  | succ k5 =>
                                    have H := HA.out
                                    clear HA
                                    simp only [laws_FnFieldInterpolates.l3] at H
                                    by_cases c25 : x75_5 < (l0.length : Int)
                                    · rw [if_pos c25] at H
                                      have c25b0 : decide (x75_5 < (l0.length : Int)) = true := decide_eq_true c25
                                      clear c25
                                      by_cases c26 : 0 ≤ x75_5
                                      · rw [if_pos c26] at H
                                        have c26b0 : decide (0 ≤ x75_5) = true := decide_eq_true c26
                                        clear c26
                                        by_cases c27 : x75_5 < (l0.length : Int)
                                        · rw [if_pos c27] at H
                                          have c27b0 : decide (x75_5 < (l0.length : Int)) = true := decide_eq_true c27
                                          clear c27
                                          by_cases c28 : x75_5 = x64_4
                                          · rw [if_pos c28] at H
                                            have c28b0 : (x75_5 == x64_4) = true := beq_iff_eq.mpr c28
                                            have c28b1 : (x75_5 != x64_4) = false := bne_eq_false_iff_eq.mpr c28
                                            clear c28
                                            have H' := Aside0.mk H
                                            clear H
                                            have p157 : 0 ≤ (x75_5 : Int) := of_decide_eq_true (by first | (with_reducible assumption) | assumption)
                                            have q157 : x75_5 < (l0.length : Int) := of_decide_eq_true (by first | (with_reducible assumption) | assumption)
                                            obtain ⟨ad157, e157, hx157_0⟩ := Kd.at_int HR0.out x75_5 p157 q157
                                            obtain rfl : ad154 = ad157 := (by injection e157)
                                            replace hx157_0 := (HB.out.cell (World.block_lt_of_cell? w _ hx157_0)).trans hx157_0
                                            replace p157 := eq_true p157
                                            replace q157 := eq_true q157
                                            go_wp2
                                            go_roundg k5
                                            case measure => have := HJ3.out; have := HJ6.out; have := HK3.out; have := HK4.out; have := HK5.out; omega
                                            case rel => exact ⟨(x14_5), (wrap64 (x75_5 + 1)), (by first | rfl | (simp; done) | (simp [*]; done)), (by first | rfl | (simp; done) | (simp [*]; done)), H', ⟨by have := HJ3.out; have := HJ6.out; have := HK3.out; have := HK4.out; have := HK5.out; omega⟩, ⟨by repeat (first | (with_reducible first | exact HB.out | apply below_alloc | apply pw_below_drewN | apply below_drew1) | exact HB.out)⟩⟩
                                          · rw [if_neg c28] at H
                                            have c28b0 : (x75_5 == x64_4) = false := beq_eq_false_iff_ne.mpr c28
                                            have c28b1 : (x75_5 != x64_4) = true := bne_iff_ne.mpr c28
                                            replace H := Option.bind_eq_some_iff.mp H
                                            obtain ⟨t158, A290, H⟩ := H
                                            replace H : ((impl_Add.f (rd l0 x64_4) (rd l0 x75_5)).bind fun t159 => ((impl_Div.f t158 t159).bind fun bt160 => (if bt160.2 = true then ((impl_Mul.f x14_5 bt160.1).bind fun t162 => (laws_FnFieldInterpolates.l3 k5 l0 l1 a2 x11_4 x64_4 (rd l0 x64_4) t162 l0 (l0.length : Int) x64_4 l0 (l0.length : Int) (wrap64 (x75_5 + 1)))) else (none)))) = some r := H
                                            have A29 := Aside0.mk A290
                                            clear A290
                                            replace H := Option.bind_eq_some_iff.mp H
                                            obtain ⟨t159, A300, H⟩ := H
                                            replace H : ((impl_Div.f t158 t159).bind fun bt160 => (if bt160.2 = true then ((impl_Mul.f x14_5 bt160.1).bind fun t162 => (laws_FnFieldInterpolates.l3 k5 l0 l1 a2 x11_4 x64_4 (rd l0 x64_4) t162 l0 (l0.length : Int) x64_4 l0 (l0.length : Int) (wrap64 (x75_5 + 1)))) else (none))) = some r := H
                                            have A30 := Aside0.mk A300
                                            clear A300
                                            replace H := Option.bind_eq_some_iff.mp H
                                            obtain ⟨⟨t160, t161⟩, A310, H⟩ := H
                                            replace H : (if t161 = true then ((impl_Mul.f x14_5 t160).bind fun t162 => (laws_FnFieldInterpolates.l3 k5 l0 l1 a2 x11_4 x64_4 (rd l0 x64_4) t162 l0 (l0.length : Int) x64_4 l0 (l0.length : Int) (wrap64 (x75_5 + 1)))) else (none)) = some r := H
                                            have A31 := Aside0.mk A310
                                            clear A310
                                            by_cases c32 : t161 = true
                                            · subst c32
                                              have H1 : ((impl_Mul.f x14_5 t160).bind fun t162 => (laws_FnFieldInterpolates.l3 k5 l0 l1 a2 x11_4 x64_4 (rd l0 x64_4) t162 l0 (l0.length : Int) x64_4 l0 (l0.length : Int) (wrap64 (x75_5 + 1)))) = some r := by rw [if_pos rfl] at H; exact H
                                              clear H
                                              have H := H1
                                              clear H1
                                              replace H := Option.bind_eq_some_iff.mp H
                                              obtain ⟨t162, A330, H⟩ := H
                                              replace H : (laws_FnFieldInterpolates.l3 k5 l0 l1 a2 x11_4 x64_4 (rd l0 x64_4) t162 l0 (l0.length : Int) x64_4 l0 (l0.length : Int) (wrap64 (x75_5 + 1))) = some r := H
                                              have A33 := Aside0.mk A330
                                              clear A330
                                              have H' := Aside0.mk H
                                              clear H
                                              have p157 : 0 ≤ (x75_5 : Int) := of_decide_eq_true (by first | (with_reducible assumption) | assumption)
                                              have q157 : x75_5 < (l0.length : Int) := of_decide_eq_true (by first | (with_reducible assumption) | assumption)
                                              obtain ⟨ad157, e157, hx157_0⟩ := Kd.at_int HR0.out x75_5 p157 q157
                                              obtain rfl : ad154 = ad157 := (by injection e157)
                                              replace hx157_0 := (HB.out.cell (World.block_lt_of_cell? w _ hx157_0)).trans hx157_0
                                              replace p157 := eq_true p157
                                              replace q157 := eq_true q157
                                              go_wp2_with (first | ((with_reducible refine gate_callee (f := 10) rfl ?_); refine goesL_ (some 86) rfl rfl Tryd.func10 (by kernel_rfl) rfl #[.int .u8 a2, .int .u8 (rd l0 x75_5)] rfl (by (try simp only [List.map_toArray, List.map_cons, List.map_nil]); first | done | rfl | (simp only [List.length_drop, List.length_take]; rfl)) ?_; (with_reducible refine (impl_Add.calls a2 (rd l0 x75_5) t158 _ A29.out).mono ?_); rintro e w' ⟨rfl, ⟨nd, rfl⟩⟩; refine ⟨_, rfl, ?_⟩) | ((with_reducible refine gate_callee (f := 10) rfl ?_); refine goesL_ (some 89) rfl rfl Tryd.func10 (by kernel_rfl) rfl #[.int .u8 (rd l0 x64_4), .int .u8 (rd l0 x75_5)] rfl (by (try simp only [List.map_toArray, List.map_cons, List.map_nil]); first | done | rfl | (simp only [List.length_drop, List.length_take]; rfl)) ?_; (with_reducible refine (impl_Add.calls (rd l0 x64_4) (rd l0 x75_5) t159 _ A30.out).mono ?_); rintro e w' ⟨rfl, ⟨nd, rfl⟩⟩; refine ⟨_, rfl, ?_⟩) | ((with_reducible refine gate_callee (f := 11) rfl ?_); refine goesL_ (some 90) rfl rfl Tryd.func11 (by kernel_rfl) rfl #[.int .u8 t158, .int .u8 t159] rfl (by (try simp only [List.map_toArray, List.map_cons, List.map_nil]); first | done | rfl | (simp only [List.length_drop, List.length_take]; rfl)) ?_; (with_reducible refine (impl_Div.calls t158 t159 t160 true _ ?side1 A31.out).mono ?_); (case side1 => exact Glob.below hG (by repeat (first | (with_reducible first | exact HB.out | apply below_alloc | apply pw_below_drewN | apply below_drew1) | exact HB.out))); rintro e w' ⟨rfl, ⟨nd, rfl⟩⟩; refine ⟨_, rfl, ?_⟩) | ((with_reducible refine gate_callee (f := 9) rfl ?_); refine goesL_ (some 97) rfl rfl Tryd.func9 (by kernel_rfl) rfl #[.int .u8 x14_5, .int .u8 t160] rfl (by (try simp only [List.map_toArray, List.map_cons, List.map_nil]); first | done | rfl | (simp only [List.length_drop, List.length_take]; rfl)) ?_; (with_reducible refine (impl_Mul.calls x14_5 t160 t162 _ ?side1 A33.out).mono ?_); (case side1 => exact Glob.below hG (by repeat (first | (with_reducible first | exact HB.out | apply below_alloc | apply pw_below_drewN | apply below_drew1) | exact HB.out))); rintro e w' ⟨rfl, ⟨nd, rfl⟩⟩; refine ⟨_, rfl, ?_⟩))
                                              go_roundg k5
                                              case measure => have := HJ3.out; have := HJ6.out; have := HK3.out; have := HK4.out; have := HK5.out; omega
                                              case rel => exact ⟨(t162), (wrap64 (x75_5 + 1)), (by first | rfl | (simp; done) | (simp [*]; done)), (by first | rfl | (simp; done) | (simp [*]; done)), H', ⟨by have := HJ3.out; have := HJ6.out; have := HK3.out; have := HK4.out; have := HK5.out; omega⟩, ⟨by repeat (first | (with_reducible first | exact HB.out | apply below_alloc | apply pw_below_drewN | apply below_drew1) | exact HB.out)⟩⟩
                                            · replace c32 := Bool.eq_false_iff.mpr c32
                                              subst c32
                                              have H1 : (none) = some r := by rw [if_neg (show ¬ (false = true) by decide)] at H; exact H
                                              clear H
                                              have H := H1
                                              clear H1
                                              exact absurd H (by simp)
                                        · rw [if_neg c27] at H
                                          exact absurd H (by simp)
                                      · rw [if_neg c26] at H
                                        exact absurd H (by simp)
                                    · rw [if_neg c25] at H
                                      have c25b0 : decide (x75_5 < (l0.length : Int)) = false := decide_eq_false c25
                                      clear c25
                                      replace H := Option.bind_eq_some_iff.mp H
                                      obtain ⟨t156, A340, H⟩ := H
                                      replace H : (laws_FnFieldInterpolates.l2 k5 l0 l1 a2 t156 l0 (l0.length : Int) (wrap64 (x64_4 + 1))) = some r := H
                                      have A34 := Aside0.mk A340
                                      clear A340
                                      have H' := Aside0.mk H
                                      clear H
                                      go_wp2_with (first | ((with_reducible refine gate_callee (f := 10) rfl ?_); refine goesL_ (some 101) rfl rfl Tryd.func10 (by kernel_rfl) rfl #[.int .u8 x11_4, .int .u8 x14_5] rfl (by (try simp only [List.map_toArray, List.map_cons, List.map_nil]); first | done | rfl | (simp only [List.length_drop, List.length_take]; rfl)) ?_; (with_reducible refine (impl_Add.calls x11_4 x14_5 t156 _ A34.out).mono ?_); rintro e w' ⟨rfl, ⟨nd, rfl⟩⟩; refine ⟨_, rfl, ?_⟩))
                                      go_roundg k5
                                      case measure => have := HJ3.out; have := HJ6.out; have := HK3.out; have := HK4.out; have := HK5.out; omega
                                      case rel => exact ⟨(t156), (wrap64 (x64_4 + 1)), (by first | rfl | (simp; done) | (simp [*]; done)), (by first | rfl | (simp; done) | (simp [*]; done)), H', ⟨by have := HJ3.out; have := HJ6.out; have := HK3.out; have := HK4.out; have := HK5.out; omega⟩, ⟨by repeat (first | (with_reducible first | exact HB.out | apply below_alloc | apply pw_below_drewN | apply below_drew1) | exact HB.out)⟩⟩
                              · rw [if_neg c24] at H
                                exact absurd H (by simp)
                            · rw [if_neg c23] at H
                              exact absurd H (by simp)
                          · rw [if_neg c22] at H
                            exact absurd H (by simp)
                        · rw [if_neg c21] at H
                          have c21b0 : decide (x64_4 < (l0.length : Int)) = false := decide_eq_false c21
                          clear c21
                          replace H := Option.bind_eq_some_iff.mp H
                          obtain ⟨t150, A350, H⟩ := H
                          replace H : ((spec_Eval.f k4 t150 a2).bind fun t153 => (some (x11_4 == t153))) = some r := H
                          have A35 := Aside0.mk A350
                          clear A350
                          replace H := Option.bind_eq_some_iff.mp H
                          obtain ⟨t153, A360, H⟩ := H
                          replace H : (some (x11_4 == t153)) = some r := H
                          have A36 := Aside0.mk A360
                          clear A360
                          obtain rfl := Option.some.inj H
                          go_wp2_with (first | ((with_reducible refine gate_callee (f := 13) rfl ?_); refine goesL_ (some 106) rfl rfl Tryd.func13 (by kernel_rfl) rfl #[.slice A0 l0.length c0, .slice A1 l1.length c1] rfl (by (try simp only [List.map_toArray, List.map_cons, List.map_nil]); first | done | rfl | (simp only [List.length_drop, List.length_take]; rfl)) ?_; (with_reducible refine (spec_Interpolate.calls k4 _ _ l0 _ _ l1 t150 _ ?side1 ?side2 ?side3 ?side4 A35.out).mono ?_); (case side1 => repeat (first | exact (Kd.C_below HR0.out HB.out) | (with_reducible refine Kd.C_alloc ?_ _) | (with_reducible refine Kd.C_drewN ?_ _) | (with_reducible refine Kd.C_drew ?_))); (case side2 => exact HC0.out); (case side3 => repeat (first | exact (Kd.C_below HR1.out HB.out) | (with_reducible refine Kd.C_alloc ?_ _) | (with_reducible refine Kd.C_drewN ?_ _) | (with_reducible refine Kd.C_drew ?_))); (case side4 => exact HC1.out); rintro e w37 ⟨v151, rfl, ho0, hb⟩; refine ⟨_, rfl, ?_⟩; have n0_ := Aside0.mk (Kd.R_lower ho0 (below_size (by repeat (first | (with_reducible first | exact HB.out | apply below_alloc | apply pw_below_drewN | apply below_drew1) | exact HB.out)))); have n1_ := Aside0.mk (below_step (by repeat (first | (with_reducible first | exact HB.out | apply below_alloc | apply pw_below_drewN | apply below_drew1) | exact HB.out)) hb); clear HB; have HO152 := n0_; have HB := n1_; clear n0_ n1_; (try clear hb); (try clear hb2); (try clear hk); (try clear hi); (try clear ho0); obtain ⟨Ao38, co38, eo38⟩ := Kd.R_slice HO152.out; subst eo38) | ((with_reducible refine gate_callee (f := 12) rfl ?_); refine goesL_ (some 108) rfl rfl Tryd.func12 (by kernel_rfl) rfl #[.slice Ao38 t150.length co38, .int .u8 a2] rfl (by (try simp only [List.map_toArray, List.map_cons, List.map_nil]); first | done | rfl | (simp only [List.length_drop, List.length_take]; rfl)) ?_; (with_reducible refine (spec_Eval.calls k4 _ _ t150 a2 t153 _ ?side1 ?side2 A36.out).mono ?_); (case side1 => repeat (first | exact (Kd.R_reads' HO152.out).2.2 | (with_reducible refine Kd.C_alloc ?_ _) | (with_reducible refine Kd.C_drewN ?_ _) | (with_reducible refine Kd.C_drew ?_))); (case side2 => exact (Kd.R_reads' HO152.out).2.1); rintro e w' ⟨rfl, ⟨nd, rfl⟩⟩; refine ⟨_, rfl, ?_⟩))
                          go_ret
                          exact ⟨by first | rfl | (simp [errW_none, errW_some] <;> rfl) | (simp [*, errW_none, errW_some] <;> rfl), by repeat (first | (with_reducible first | exact HB.out | apply below_alloc | apply pw_below_drewN | apply below_drew1) | exact HB.out)⟩

/-- THE ONE PURE STATEMENT of laws_FnFieldInterpolates: yours. -/
def laws_FnFieldInterpolates.Pure : Prop := ∀ (l0 : List Int) (l1 : List Int) (a2 : Int), l0.length ≤ maxLen → l0.length * 1 ≤ 140737488351232 → (∀ x ∈ l0, (Lit.int .u8 x).wf = true) → l1.length ≤ maxLen → l1.length * 1 ≤ 140737488351232 → (∀ x ∈ l1, (Lit.int .u8 x).wf = true) → (Lit.int .u8 a2).wf = true → ∃ k, laws_FnFieldInterpolates.f k l0 l1 a2 = some true
theorem laws_FnFieldInterpolates.walk (P : laws_FnFieldInterpolates.Pure) (a0 : Option Addr) (len0 cap0 : Nat) (z0 : List Int) (a1 : Option Addr) (len1 cap1 : Nat) (z1 : List Int) (a2 : Int) (w : World) (hG : Glob w) (w0 : (a0 = none ∧ len0 = 0 ∧ cap0 = 0 ∧ z0 = []) ∨ ∃ x, a0 = some x ∧ len0 ≤ cap0 ∧ cap0 ≤ maxLen ∧ z0.length = cap0 ∧ (∀ i, i < z0.length → w.cell? (x.add i) = some (.int .u8 (z0.getD i 0))) ∧ ∀ n ∈ z0, (Lit.int .u8 n).wf = true) (y0 : len0 * 1 ≤ 140737488351232) (w1 : (a1 = none ∧ len1 = 0 ∧ cap1 = 0 ∧ z1 = []) ∨ ∃ x, a1 = some x ∧ len1 ≤ cap1 ∧ cap1 ≤ maxLen ∧ z1.length = cap1 ∧ (∀ i, i < z1.length → w.cell? (x.add i) = some (.int .u8 (z1.getD i 0))) ∧ ∀ n ∈ z1, (Lit.int .u8 n).wf = true) (y1 : len1 * 1 ≤ 140737488351232) (w2 : (Lit.int .u8 a2).wf = true) :
    Calls Tryd.prog 4 #[.slice a0 len0 cap0, .slice a1 len1 cap1, .int .u8 a2] w fun e w' => e = .returned (.bool true) ∧ Below w.heap.size w w' := by
  obtain ⟨l0, rfl, hr0, hm0, hw0, hc0⟩ := ReadsInt.ofRowC w0
  obtain ⟨l1, rfl, hr1, hm1, hw1, hc1⟩ := ReadsInt.ofRowC w1
  obtain ⟨k, h⟩ := P l0 l1 a2 hm0 y0 hw0 hm1 y1 hw1 w2
  refine (laws_FnFieldInterpolates.calls k _ _ l0 _ _ l1 a2 true w hG (Kd.C_of_reads (d := (0 : Int)) (h1 := fun _ => rfl) hr0) hc0 (Kd.C_of_reads (d := (0 : Int)) (h1 := fun _ => rfl) hr1) hc1 h).mono ?_
  rintro e w' ⟨rfl, hd⟩
  exact ⟨rfl, hd⟩

end Go.Proofs.YtladpdeneiaaeaaDoor.PAll
