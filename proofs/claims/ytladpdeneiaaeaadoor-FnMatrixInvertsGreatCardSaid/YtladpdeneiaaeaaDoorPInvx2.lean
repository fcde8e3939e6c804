-- Written by a program of this session (wip/tools)
import Derived.Test.YtladpdeneiaaeaaDoorPInvx0
namespace Go.Proofs.YtladpdeneiaaeaaDoor.PInv
open Go.RowKit Go.Proofs.YtladpdeneiaaeaaDoorW.PrintWords Go.Proofs.YtladpdeneiaaeaaDoorW.PrintLast Go.Proofs.YtladpdeneiaaeaaDoorW.PrintMore
attribute [local go_sem] max2_int min2_int max_two min_two max_three min_three max_four min_four   -- for this text's walks alone
set_option linter.unusedVariables false
set_option linter.unusedSimpArgs false

/-! ### laws_moderate: function 15 -/
mutual
def laws_moderate.l0 : Nat → List (List (List Int)) → Int → Int → Option (Bool)
  | 0, _, _, _ => none
  | k + 1, x7, x8, x9 => if x9 < x8 then (if 0 ≤ x9 then (if x9 < (x7.length : Int) then (if ((rd_L3 x7 x9).length : Int) > 40 then (some false) else (laws_moderate.l1 k x7 x8 x9 (rd_L3 x7 x9) ((rd_L3 x7 x9).length : Int) 0)) else (none)) else (none)) else (some true)
def laws_moderate.l1 : Nat → List (List (List Int)) → Int → Int → List (List Int) → Int → Int → Option (Bool)
  | 0, _, _, _, _, _, _ => none
  | k + 1, x7, x8, x9, x16, x17, x18 => if x18 < x17 then (if 0 ≤ x18 then (if x18 < (x16.length : Int) then (if ((rd_L1 x16 x18).length : Int) > 40 then (some false) else (laws_moderate.l1 k x7 x8 x9 x16 x17 (wrap64 (x18 + 1)))) else (none)) else (none)) else (laws_moderate.l0 k x7 x8 (wrap64 (x9 + 1)))
end
def laws_moderate.f (k : Nat) (l0 : List (List (List Int))) : Option (Bool) := laws_moderate.l0 k l0 (l0.length : Int) 0
theorem laws_moderate.mono_l : ∀ k, (∀ y0 y1 y2, LeO (laws_moderate.l0 k y0 y1 y2) (laws_moderate.l0 (k + 1) y0 y1 y2)) ∧ (∀ y0 y1 y2 y3 y4 y5, LeO (laws_moderate.l1 k y0 y1 y2 y3 y4 y5) (laws_moderate.l1 (k + 1) y0 y1 y2 y3 y4 y5))
  | 0 => ⟨fun _ _ _ r h => by simp [laws_moderate.l0] at h, fun _ _ _ _ _ _ r h => by simp [laws_moderate.l1] at h⟩
  | k + 1 => by
    obtain ⟨ih0, ih1⟩ := laws_moderate.mono_l k
    refine ⟨?_, ?_⟩
    · intro y0 y1 y2
      unfold laws_moderate.l0
      repeat' first
      | (with_reducible exact ih0 _ _ _)
      | (with_reducible exact ih1 _ _ _ _ _ _)
      | (with_reducible exact LeO.refl _)
      | (with_reducible exact LeO.none _)
      | (with_reducible refine LeO.ite ?_ ?_)
      | (with_reducible refine LeO.bind ?_ (fun _ => ?_))
      | exact ih0 _ _ _
      | exact ih1 _ _ _ _ _ _
      | exact LeO.none _
      | refine LeO.ite ?_ ?_
      | refine LeO.bind ?_ (fun _ => ?_)
    · intro y0 y1 y2 y3 y4 y5
      unfold laws_moderate.l1
      repeat' first
      | (with_reducible exact ih0 _ _ _)
      | (with_reducible exact ih1 _ _ _ _ _ _)
      | (with_reducible exact LeO.refl _)
      | (with_reducible exact LeO.none _)
      | (with_reducible refine LeO.ite ?_ ?_)
      | (with_reducible refine LeO.bind ?_ (fun _ => ?_))
      | exact ih0 _ _ _
      | exact ih1 _ _ _ _ _ _
      | exact LeO.none _
      | refine LeO.ite ?_ ?_
      | refine LeO.bind ?_ (fun _ => ?_)
theorem laws_moderate.mono : ∀ a0 k, LeO (laws_moderate.f k a0) (laws_moderate.f (k + 1) a0) := by
  intro a0 k
  obtain ⟨ih0, ih1⟩ := laws_moderate.mono_l k
  unfold laws_moderate.f
  repeat' first
      | (with_reducible exact ih0 _ _ _)
      | (with_reducible exact ih1 _ _ _ _ _ _)
      | (with_reducible exact LeO.refl _)
      | (with_reducible exact LeO.none _)
      | (with_reducible refine LeO.ite ?_ ?_)
      | (with_reducible refine LeO.bind ?_ (fun _ => ?_))
      | exact ih0 _ _ _
      | exact ih1 _ _ _ _ _ _
      | exact LeO.none _
      | refine LeO.ite ?_ ?_
      | refine LeO.bind ?_ (fun _ => ?_)
set_option maxHeartbeats 8000000 in
set_option maxRecDepth 100000 in
theorem laws_moderate.calls (k : Nat) (A0 : Option Addr) (c0 : Nat) (l0 : List (List (List Int))) (r : Bool) (w : World) (hr0 : Kd.C (Kd.slice 25 (Kd.slice 5 (Kd.int .u8))) w A0 l0.length l0) (hc0 : l0.length ≤ c0) (h : laws_moderate.f k l0 = some r) :
    Calls Tryd.prog 15 #[.slice A0 l0.length c0] w fun e w' => e = .returned (.bool r) ∧ Drawn0 w w' := by
  have HR0 := Aside0.mk hr0
  have HC0 := Aside0.mk hc0
  clear hr0 hc0
  have H : (laws_moderate.l0 k l0 (l0.length : Int) 0) = some r := h
  clear h
  have H' := Aside0.mk H
  clear H
  go_enter Tryd.func15, Tryd.ntmps15
  go_wp2
  try simp only [Act.put, List.setIfInBounds_toArray, List.set_cons_zero, List.set_cons_succ]
  go_loopg [9] k (fun kq v9 w' => ∃ (x9_1 : Int), v9 = .int .i64 x9_1 ∧ Aside0 (laws_moderate.l0 kq l0 (l0.length : Int) x9_1 = some r) ∧ Aside0 (kq ≤ k) ∧ Drawn0 w w')
  case atStart => exact ⟨(0), (by first | rfl | (simp; done) | (simp [*]; done)), H', ⟨Nat.le_refl _⟩, by repeat (first | exact Drawn0.refl _ | apply Drawn0.step)⟩
  case round =>
    clear H'
    try clear c1
    obtain ⟨x9_1, rfl, HA, HK1, ⟨m1, rfl⟩⟩ := hrel
    cases gk with
    | zero => exact absurd HA.out (by simp [laws_moderate.l0])
    | succ k1 =>
      have H := HA.out
      clear HA
      simp only [laws_moderate.l0] at H
      by_cases c2 : x9_1 < (l0.length : Int)
      · rw [if_pos c2] at H
        have c2b0 : decide (x9_1 < (l0.length : Int)) = true := decide_eq_true c2
        clear c2
        by_cases c3 : 0 ≤ x9_1
        · rw [if_pos c3] at H
          have c3b0 : decide (0 ≤ x9_1) = true := decide_eq_true c3
          clear c3
          by_cases c4 : x9_1 < (l0.length : Int)
          · rw [if_pos c4] at H
            have c4b0 : decide (x9_1 < (l0.length : Int)) = true := decide_eq_true c4
            clear c4
            by_cases c5 : ((rd_L3 l0 x9_1).length : Int) > 40
            · rw [if_pos c5] at H
              have c5b0 : decide (40 < ((rd_L3 l0 x9_1).length : Int)) = true := decide_eq_true c5
              have c5b1 : decide (40 < (rd_L3 l0 x9_1).length) = true := decide_eq_true (by omega)
              clear c5
              obtain rfl := Option.some.inj H
              have p132 : 0 ≤ (x9_1 : Int) := of_decide_eq_true (by first | (with_reducible assumption) | assumption)
              have q132 : x9_1 < (l0.length : Int) := of_decide_eq_true (by first | (with_reducible assumption) | assumption)
              obtain ⟨ad132, A132_0, c132_0, e132, hx132_0, hl132_0, hi132_0⟩ := at_L3 HR0.out x9_1 p132 q132
              cases e132
              have HR132_0 := Aside0.mk hi132_0
              have HC132_0 := Aside0.mk hl132_0
              clear hi132_0 hl132_0
              replace p132 := eq_true p132
              replace q132 := eq_true q132
              go_wp2
              go_ret
              exact ⟨by first | rfl | (simp; done) | (simp [*]; done), by repeat (first | exact Drawn0.refl _ | apply Drawn0.step)⟩
            · rw [if_neg c5] at H
              have c5b0 : decide (40 < ((rd_L3 l0 x9_1).length : Int)) = false := decide_eq_false c5
              have c5b1 : decide (40 < (rd_L3 l0 x9_1).length) = false := decide_eq_false (by omega)
              clear c5
              have H' := Aside0.mk H
              clear H
              have p132 : 0 ≤ (x9_1 : Int) := of_decide_eq_true (by first | (with_reducible assumption) | assumption)
              have q132 : x9_1 < (l0.length : Int) := of_decide_eq_true (by first | (with_reducible assumption) | assumption)
              obtain ⟨ad132, A132_0, c132_0, e132, hx132_0, hl132_0, hi132_0⟩ := at_L3 HR0.out x9_1 p132 q132
              cases e132
              have HR132_0 := Aside0.mk hi132_0
              have HC132_0 := Aside0.mk hl132_0
              clear hi132_0 hl132_0
              replace p132 := eq_true p132
              replace q132 := eq_true q132
              go_wp2
              try simp only [Act.put, List.setIfInBounds_toArray, List.set_cons_zero, List.set_cons_succ]
              go_loopg [18] k1 (fun kq v18 w' => ∃ (x18_2 : Int), v18 = .int .i64 x18_2 ∧ Aside0 (laws_moderate.l1 kq l0 (l0.length : Int) x9_1 (rd_L3 l0 x9_1) ((rd_L3 l0 x9_1).length : Int) x18_2 = some r) ∧ Aside0 (kq ≤ k1) ∧ Drawn0 w w')
              case atStart => exact ⟨(0), (by first | rfl | (simp; done) | (simp [*]; done)), H', ⟨Nat.le_refl _⟩, by repeat (first | exact Drawn0.refl _ | apply Drawn0.step)⟩
              case round =>
                clear H'
                try clear c1
                try clear p1
                try clear q1
                try clear hx1
                try clear c2
                try clear c2b0
                try clear p2
                try clear c3
                try clear c3b0
                try clear c4
                try clear c4b0
                try clear c5
                try clear c5b0
                try clear c5b1
                try clear hx132_0
                try clear p132
                try clear q132
                obtain ⟨x18_2, rfl, HA, HK2, ⟨m2, rfl⟩⟩ := hrel
                cases gk with
                | zero => exact absurd HA.out (by simp [laws_moderate.l1])
                | succ k2 =>
                  have H := HA.out
                  clear HA
                  simp only [laws_moderate.l1] at H
                  by_cases c6 : x18_2 < ((rd_L3 l0 x9_1).length : Int)
                  · rw [if_pos c6] at H
                    have c6b0 : decide (x18_2 < ((rd_L3 l0 x9_1).length : Int)) = true := decide_eq_true c6
                    clear c6
                    by_cases c7 : 0 ≤ x18_2
                    · rw [if_pos c7] at H
                      have c7b0 : decide (0 ≤ x18_2) = true := decide_eq_true c7
                      clear c7
                      by_cases c8 : x18_2 < ((rd_L3 l0 x9_1).length : Int)
                      · rw [if_pos c8] at H
                        have c8b0 : decide (x18_2 < ((rd_L3 l0 x9_1).length : Int)) = true := decide_eq_true c8
                        clear c8
                        by_cases c9 : ((rd_L1 (rd_L3 l0 x9_1) x18_2).length : Int) > 40
                        · rw [if_pos c9] at H
                          have c9b0 : decide (40 < ((rd_L1 (rd_L3 l0 x9_1) x18_2).length : Int)) = true := decide_eq_true c9
                          have c9b1 : decide (40 < (rd_L1 (rd_L3 l0 x9_1) x18_2).length) = true := decide_eq_true (by omega)
                          clear c9
                          obtain rfl := Option.some.inj H
                          have p133 : 0 ≤ (x18_2 : Int) := of_decide_eq_true (by first | (with_reducible assumption) | assumption)
                          have q133 : x18_2 < ((rd_L3 l0 x9_1).length : Int) := of_decide_eq_true (by first | (with_reducible assumption) | assumption)
                          obtain ⟨ad133, A133_0, c133_0, e133, hx133_0, hl133_0, hi133_0⟩ := at_L1 HR132_0.out x18_2 p133 q133
                          cases e133
                          have HR133_0 := Aside0.mk hi133_0
                          have HC133_0 := Aside0.mk hl133_0
                          clear hi133_0 hl133_0
                          replace p133 := eq_true p133
                          replace q133 := eq_true q133
                          go_wp2
                          go_ret
                          exact ⟨by first | rfl | (simp; done) | (simp [*]; done), by repeat (first | exact Drawn0.refl _ | apply Drawn0.step)⟩
                        · rw [if_neg c9] at H
                          have c9b0 : decide (40 < ((rd_L1 (rd_L3 l0 x9_1) x18_2).length : Int)) = false := decide_eq_false c9
                          have c9b1 : decide (40 < (rd_L1 (rd_L3 l0 x9_1) x18_2).length) = false := decide_eq_false (by omega)
                          clear c9
                          have H' := Aside0.mk H
                          clear H
                          have p133 : 0 ≤ (x18_2 : Int) := of_decide_eq_true (by first | (with_reducible assumption) | assumption)
                          have q133 : x18_2 < ((rd_L3 l0 x9_1).length : Int) := of_decide_eq_true (by first | (with_reducible assumption) | assumption)
                          obtain ⟨ad133, A133_0, c133_0, e133, hx133_0, hl133_0, hi133_0⟩ := at_L1 HR132_0.out x18_2 p133 q133
                          cases e133
                          have HR133_0 := Aside0.mk hi133_0
                          have HC133_0 := Aside0.mk hl133_0
                          clear hi133_0 hl133_0
                          replace p133 := eq_true p133
                          replace q133 := eq_true q133
                          go_wp2
                          go_roundg k2
                          case measure => have := HK1.out; have := HK2.out; omega
                          case rel => exact ⟨(wrap64 (x18_2 + 1)), (by first | rfl | (simp; done) | (simp [*]; done)), H', ⟨by have := HK1.out; have := HK2.out; omega⟩, by repeat (first | exact Drawn0.refl _ | apply Drawn0.step)⟩
                      · rw [if_neg c8] at H
                        exact absurd H (by simp)
                    · rw [if_neg c7] at H
                      exact absurd H (by simp)
                  · rw [if_neg c6] at H
                    have c6b0 : decide (x18_2 < ((rd_L3 l0 x9_1).length : Int)) = false := decide_eq_false c6
                    clear c6
                    have H' := Aside0.mk H
                    clear H
                    go_wp2
                    go_roundg k2
                    case measure => have := HK1.out; have := HK2.out; omega
                    case rel => exact ⟨(wrap64 (x9_1 + 1)), (by first | rfl | (simp; done) | (simp [*]; done)), H', ⟨by have := HK1.out; have := HK2.out; omega⟩, by repeat (first | exact Drawn0.refl _ | apply Drawn0.step)⟩
          · rw [if_neg c4] at H
            exact absurd H (by simp)
        · rw [if_neg c3] at H
          exact absurd H (by simp)
      · rw [if_neg c2] at H
        have c2b0 : decide (x9_1 < (l0.length : Int)) = false := decide_eq_false c2
        clear c2
        obtain rfl := Option.some.inj H
        go_wp2
        go_ret
        exact ⟨by first | rfl | (simp; done) | (simp [*]; done), by repeat (first | exact Drawn0.refl _ | apply Drawn0.step)⟩

/-! ### spec_Columns: function 24 -/
def spec_Columns.f (l0 : List (List Int)) : Option (Int) := if (l0.length : Int) = 0 then (some 0) else (if 0 < (l0.length : Int) then (some ((rd_L1 l0 0).length : Int)) else (none))
set_option maxHeartbeats 8000000 in
set_option maxRecDepth 100000 in
theorem spec_Columns.calls (A0 : Option Addr) (c0 : Nat) (l0 : List (List Int)) (r : Int) (w : World) (hr0 : Kd.C (Kd.slice 5 (Kd.int .u8)) w A0 l0.length l0) (hc0 : l0.length ≤ c0) (h : spec_Columns.f l0 = some r) :
    Calls Tryd.prog 24 #[.slice A0 l0.length c0] w fun e w' => e = .returned (.int .i64 r) ∧ Drawn0 w w' := by
  have HR0 := Aside0.mk hr0
  have HC0 := Aside0.mk hc0
  clear hr0 hc0
  have H : (if (l0.length : Int) = 0 then (some 0) else (if 0 < (l0.length : Int) then (some ((rd_L1 l0 0).length : Int)) else (none))) = some r := h
  clear h
  by_cases c2 : (l0.length : Int) = 0
  · rw [if_pos c2] at H
    have c2b0 : ((l0.length : Int) == 0) = true := beq_iff_eq.mpr c2
    have c2b1 : ((l0.length : Int) != 0) = false := bne_eq_false_iff_eq.mpr c2
    clear c2
    obtain rfl := Option.some.inj H
    go_enter Tryd.func24, Tryd.ntmps24
    go_wp2
    go_ret
    exact ⟨by first | rfl | (simp; done) | (simp [*]; done), by repeat (first | exact Drawn0.refl _ | apply Drawn0.step)⟩
  · rw [if_neg c2] at H
    have c2b0 : ((l0.length : Int) == 0) = false := beq_eq_false_iff_ne.mpr c2
    have c2b1 : ((l0.length : Int) != 0) = true := bne_iff_ne.mpr c2
    have c2b2 : ¬ (l0 = []) := fun h_ => c2 (by rw [h_]; rfl)
    by_cases c3 : 0 < (l0.length : Int)
    · rw [if_pos c3] at H
      have c3b0 : decide (0 < (l0.length : Int)) = true := decide_eq_true c3
      have c3b1 : decide (0 < l0.length) = true := decide_eq_true (by omega)
      clear c3
      obtain rfl := Option.some.inj H
      have p134 : 0 ≤ (0 : Int) := (by omega)
      have q134 : 0 < (l0.length : Int) := of_decide_eq_true (by first | (with_reducible assumption) | assumption)
      obtain ⟨ad134, A134_0, c134_0, e134, hx134_0, hl134_0, hi134_0⟩ := at_L1 HR0.out 0 p134 q134
      cases e134
      have qi134 : (0 < l0.length) = True := eq_true (by omega)
      (try rw [show ((0 : Int)).toNat = 0 from rfl] at hx134_0)
      (try rw [Addr.add_zero'] at hx134_0)
      have HR134_0 := Aside0.mk hi134_0
      have HC134_0 := Aside0.mk hl134_0
      clear hi134_0 hl134_0
      replace p134 := eq_true p134
      replace q134 := eq_true q134
      go_enter Tryd.func24, Tryd.ntmps24
      go_wp2
      go_ret
      exact ⟨by first | rfl | (simp; done) | (simp [*]; done), by repeat (first | exact Drawn0.refl _ | apply Drawn0.step)⟩
    · rw [if_neg c3] at H
      exact absurd H (by simp)

/-! ### spec_Rectangular: function 17 -/
def spec_Rectangular.l0 : Nat → List (List Int) → List (List Int) → Int → Int → Option (Bool)
  | 0, _, _, _, _ => none
  | k + 1, x0, x5, x6, x7 => if x7 < x6 then (if 0 ≤ x7 then (if x7 < (x5.length : Int) then ((spec_Columns.f x0).bind fun t136 => (if ((rd_L1 x5 x7).length : Int) = t136 then (spec_Rectangular.l0 k x0 x5 x6 (wrap64 (x7 + 1))) else (some false))) else (none)) else (none)) else ((spec_Columns.f x0).bind fun t137 => (some (decide (t137 > 0))))
def spec_Rectangular.f (k : Nat) (l0 : List (List Int)) : Option (Bool) := spec_Rectangular.l0 k l0 l0 (l0.length : Int) 0
theorem spec_Rectangular.mono_l : ∀ k, (∀ y0 y1 y2 y3, LeO (spec_Rectangular.l0 k y0 y1 y2 y3) (spec_Rectangular.l0 (k + 1) y0 y1 y2 y3))
  | 0 => fun _ _ _ _ r h => by simp [spec_Rectangular.l0] at h
  | k + 1 => by
    have ih0 := spec_Rectangular.mono_l k
    · intro y0 y1 y2 y3
      unfold spec_Rectangular.l0
      repeat' first
      | (with_reducible exact ih0 _ _ _ _)
      | (with_reducible exact LeO.refl _)
      | (with_reducible exact LeO.none _)
      | (with_reducible refine LeO.ite ?_ ?_)
      | (with_reducible refine LeO.bind ?_ (fun _ => ?_))
      | exact ih0 _ _ _ _
      | exact LeO.none _
      | refine LeO.ite ?_ ?_
      | refine LeO.bind ?_ (fun _ => ?_)
theorem spec_Rectangular.mono : ∀ a0 k, LeO (spec_Rectangular.f k a0) (spec_Rectangular.f (k + 1) a0) := by
  intro a0 k
  have ih0 := spec_Rectangular.mono_l k
  unfold spec_Rectangular.f
  repeat' first
      | (with_reducible exact ih0 _ _ _ _)
      | (with_reducible exact LeO.refl _)
      | (with_reducible exact LeO.none _)
      | (with_reducible refine LeO.ite ?_ ?_)
      | (with_reducible refine LeO.bind ?_ (fun _ => ?_))
      | exact ih0 _ _ _ _
      | exact LeO.none _
      | refine LeO.ite ?_ ?_
      | refine LeO.bind ?_ (fun _ => ?_)
set_option maxHeartbeats 8000000 in
set_option maxRecDepth 100000 in
theorem spec_Rectangular.calls (k : Nat) (A0 : Option Addr) (c0 : Nat) (l0 : List (List Int)) (r : Bool) (w : World) (hr0 : Kd.C (Kd.slice 5 (Kd.int .u8)) w A0 l0.length l0) (hc0 : l0.length ≤ c0) (h : spec_Rectangular.f k l0 = some r) :
    Calls Tryd.prog 17 #[.slice A0 l0.length c0] w fun e w' => e = .returned (.bool r) ∧ Drawn0 w w' := by
  have HR0 := Aside0.mk hr0
  have HC0 := Aside0.mk hc0
  clear hr0 hc0
  have H : (spec_Rectangular.l0 k l0 l0 (l0.length : Int) 0) = some r := h
  clear h
  have H' := Aside0.mk H
  clear H
  go_enter Tryd.func17, Tryd.ntmps17
  go_wp2
  try simp only [Act.put, List.setIfInBounds_toArray, List.set_cons_zero, List.set_cons_succ]
  go_loopg [7] k (fun kq v7 w' => ∃ (x7_1 : Int), v7 = .int .i64 x7_1 ∧ Aside0 (spec_Rectangular.l0 kq l0 l0 (l0.length : Int) x7_1 = some r) ∧ Aside0 (kq ≤ k) ∧ Drawn0 w w')
  case atStart => exact ⟨(0), (by first | rfl | (simp; done) | (simp [*]; done)), H', ⟨Nat.le_refl _⟩, by repeat (first | exact Drawn0.refl _ | apply Drawn0.step)⟩
  case round =>
    clear H'
    try clear c1
    obtain ⟨x7_1, rfl, HA, HK1, ⟨m1, rfl⟩⟩ := hrel
    cases gk with
    | zero => exact absurd HA.out (by simp [spec_Rectangular.l0])
    | succ k1 =>
      have H := HA.out
      clear HA
      simp only [spec_Rectangular.l0] at H
      by_cases c2 : x7_1 < (l0.length : Int)
      · rw [if_pos c2] at H
        have c2b0 : decide (x7_1 < (l0.length : Int)) = true := decide_eq_true c2
        clear c2
        by_cases c3 : 0 ≤ x7_1
        · rw [if_pos c3] at H
          have c3b0 : decide (0 ≤ x7_1) = true := decide_eq_true c3
          clear c3
          by_cases c4 : x7_1 < (l0.length : Int)
          · rw [if_pos c4] at H
            have c4b0 : decide (x7_1 < (l0.length : Int)) = true := decide_eq_true c4
            clear c4
            replace H := Option.bind_eq_some_iff.mp H
            obtain ⟨t136, A50, H⟩ := H
            replace H : (if ((rd_L1 l0 x7_1).length : Int) = t136 then (spec_Rectangular.l0 k1 l0 l0 (l0.length : Int) (wrap64 (x7_1 + 1))) else (some false)) = some r := H
            have A5 := Aside0.mk A50
            clear A50
            by_cases c6 : ((rd_L1 l0 x7_1).length : Int) = t136
            · rw [if_pos c6] at H
              have c6b0 : (((rd_L1 l0 x7_1).length : Int) == t136) = true := beq_iff_eq.mpr c6
              have c6b1 : (((rd_L1 l0 x7_1).length : Int) != t136) = false := bne_eq_false_iff_eq.mpr c6
              clear c6
              have H' := Aside0.mk H
              clear H
              have p135 : 0 ≤ (x7_1 : Int) := of_decide_eq_true (by first | (with_reducible assumption) | assumption)
              have q135 : x7_1 < (l0.length : Int) := of_decide_eq_true (by first | (with_reducible assumption) | assumption)
              obtain ⟨ad135, A135_0, c135_0, e135, hx135_0, hl135_0, hi135_0⟩ := at_L1 HR0.out x7_1 p135 q135
              cases e135
              have HR135_0 := Aside0.mk hi135_0
              have HC135_0 := Aside0.mk hl135_0
              clear hi135_0 hl135_0
              replace p135 := eq_true p135
              replace q135 := eq_true q135
              go_wp2_with (first | ((with_reducible refine gate_callee (f := 24) rfl ?_); refine goesL_ (some 14) rfl rfl Tryd.func24 (by kernel_rfl) rfl #[.slice (some ad135) l0.length c0] rfl (by (try simp only [List.map_toArray, List.map_cons, List.map_nil]); first | done | rfl | (simp only [List.length_drop, List.length_take]; rfl)) ?_; (with_reducible refine (spec_Columns.calls _ _ l0 t136 _ ?side1 ?side2 A5.out).mono ?_); (case side1 => repeat (first | exact HR0.out | (with_reducible refine Kd.C_alloc ?_ _) | (with_reducible refine Kd.C_drewN ?_ _) | (with_reducible refine Kd.C_drew ?_))); (case side2 => exact HC0.out); rintro e w' ⟨rfl, ⟨nd, rfl⟩⟩; refine ⟨_, rfl, ?_⟩))
              go_roundg k1
              case measure => have := HK1.out; omega
              case rel => exact ⟨(wrap64 (x7_1 + 1)), (by first | rfl | (simp; done) | (simp [*]; done)), H', ⟨by have := HK1.out; omega⟩, by repeat (first | exact Drawn0.refl _ | apply Drawn0.step)⟩
            · rw [if_neg c6] at H
              have c6b0 : (((rd_L1 l0 x7_1).length : Int) == t136) = false := beq_eq_false_iff_ne.mpr c6
              have c6b1 : (((rd_L1 l0 x7_1).length : Int) != t136) = true := bne_iff_ne.mpr c6
              obtain rfl := Option.some.inj H
              have p135 : 0 ≤ (x7_1 : Int) := of_decide_eq_true (by first | (with_reducible assumption) | assumption)
              have q135 : x7_1 < (l0.length : Int) := of_decide_eq_true (by first | (with_reducible assumption) | assumption)
              obtain ⟨ad135, A135_0, c135_0, e135, hx135_0, hl135_0, hi135_0⟩ := at_L1 HR0.out x7_1 p135 q135
              cases e135
              have HR135_0 := Aside0.mk hi135_0
              have HC135_0 := Aside0.mk hl135_0
              clear hi135_0 hl135_0
              replace p135 := eq_true p135
              replace q135 := eq_true q135
              go_wp2_with (first | ((with_reducible refine gate_callee (f := 24) rfl ?_); refine goesL_ (some 14) rfl rfl Tryd.func24 (by kernel_rfl) rfl #[.slice (some ad135) l0.length c0] rfl (by (try simp only [List.map_toArray, List.map_cons, List.map_nil]); first | done | rfl | (simp only [List.length_drop, List.length_take]; rfl)) ?_; (with_reducible refine (spec_Columns.calls _ _ l0 t136 _ ?side1 ?side2 A5.out).mono ?_); (case side1 => repeat (first | exact HR0.out | (with_reducible refine Kd.C_alloc ?_ _) | (with_reducible refine Kd.C_drewN ?_ _) | (with_reducible refine Kd.C_drew ?_))); (case side2 => exact HC0.out); rintro e w' ⟨rfl, ⟨nd, rfl⟩⟩; refine ⟨_, rfl, ?_⟩))
              go_ret
              exact ⟨by first | rfl | (simp; done) | (simp [*]; done), by repeat (first | exact Drawn0.refl _ | apply Drawn0.step)⟩
          · rw [if_neg c4] at H
            exact absurd H (by simp)
        · rw [if_neg c3] at H
          exact absurd H (by simp)
      · rw [if_neg c2] at H
        have c2b0 : decide (x7_1 < (l0.length : Int)) = false := decide_eq_false c2
        clear c2
        replace H := Option.bind_eq_some_iff.mp H
        obtain ⟨t137, A70, H⟩ := H
        replace H : (some (decide (t137 > 0))) = some r := H
        have A7 := Aside0.mk A70
        clear A70
        obtain rfl := Option.some.inj H
        go_wp2_with (first | ((with_reducible refine gate_callee (f := 24) rfl ?_); refine goesL_ (some 18) rfl rfl Tryd.func24 (by kernel_rfl) rfl #[.slice A0 l0.length c0] rfl (by (try simp only [List.map_toArray, List.map_cons, List.map_nil]); first | done | rfl | (simp only [List.length_drop, List.length_take]; rfl)) ?_; (with_reducible refine (spec_Columns.calls _ _ l0 t137 _ ?side1 ?side2 A7.out).mono ?_); (case side1 => repeat (first | exact HR0.out | (with_reducible refine Kd.C_alloc ?_ _) | (with_reducible refine Kd.C_drewN ?_ _) | (with_reducible refine Kd.C_drew ?_))); (case side2 => exact HC0.out); rintro e w' ⟨rfl, ⟨nd, rfl⟩⟩; refine ⟨_, rfl, ?_⟩))
        go_ret
        exact ⟨by first | rfl | (simp; done) | (simp [*]; done), by repeat (first | exact Drawn0.refl _ | apply Drawn0.step)⟩

/-! ### spec_EqualMatrices: function 23 -/
mutual
def spec_EqualMatrices.l0 : Nat → List (List Int) → List (List Int) → Int → Int → Option (Bool)
  | 0, _, _, _, _ => none
  | k + 1, x0, x1, x13, x14 => if x14 < x13 then (if 0 ≤ x14 then (if x14 < (x0.length : Int) then (if x14 < (x1.length : Int) then (if ((rd_L1 x0 x14).length : Int) = ((rd_L1 x1 x14).length : Int) then (spec_EqualMatrices.l1 k x0 x1 x14 x13 x14 ((rd_L1 x0 x14).length : Int) 0) else (some false)) else (none)) else (none)) else (none)) else (some true)
def spec_EqualMatrices.l1 : Nat → List (List Int) → List (List Int) → Int → Int → Int → Int → Int → Option (Bool)
  | 0, _, _, _, _, _, _, _ => none
  | k + 1, x0, x1, x5, x13, x14, x32, x33 => if x33 < x32 then (if 0 ≤ x5 then (if x5 < (x0.length : Int) then (if 0 ≤ x33 then (if x33 < ((rd_L1 x0 x5).length : Int) then (if x5 < (x1.length : Int) then (if x33 < ((rd_L1 x1 x5).length : Int) then (if (rd (rd_L1 x0 x5) x33) = (rd (rd_L1 x1 x5) x33) then (spec_EqualMatrices.l1 k x0 x1 x5 x13 x14 x32 (wrap64 (x33 + 1))) else (some false)) else (none)) else (none)) else (none)) else (none)) else (none)) else (none)) else (spec_EqualMatrices.l0 k x0 x1 x13 (wrap64 (x14 + 1)))
end
def spec_EqualMatrices.f (k : Nat) (l0 : List (List Int)) (l1 : List (List Int)) : Option (Bool) := if (l0.length : Int) = (l1.length : Int) then (spec_EqualMatrices.l0 k l0 l1 (l0.length : Int) 0) else (some false)
theorem spec_EqualMatrices.mono_l : ∀ k, (∀ y0 y1 y2 y3, LeO (spec_EqualMatrices.l0 k y0 y1 y2 y3) (spec_EqualMatrices.l0 (k + 1) y0 y1 y2 y3)) ∧ (∀ y0 y1 y2 y3 y4 y5 y6, LeO (spec_EqualMatrices.l1 k y0 y1 y2 y3 y4 y5 y6) (spec_EqualMatrices.l1 (k + 1) y0 y1 y2 y3 y4 y5 y6))
  | 0 => ⟨fun _ _ _ _ r h => by simp [spec_EqualMatrices.l0] at h, fun _ _ _ _ _ _ _ r h => by simp [spec_EqualMatrices.l1] at h⟩
  | k + 1 => by
    obtain ⟨ih0, ih1⟩ := spec_EqualMatrices.mono_l k
    refine ⟨?_, ?_⟩
    · intro y0 y1 y2 y3
      unfold spec_EqualMatrices.l0
      repeat' first
      | (with_reducible exact ih0 _ _ _ _)
      | (with_reducible exact ih1 _ _ _ _ _ _ _)
      | (with_reducible exact LeO.refl _)
      | (with_reducible exact LeO.none _)
      | (with_reducible refine LeO.ite ?_ ?_)
      | (with_reducible refine LeO.bind ?_ (fun _ => ?_))
      | exact ih0 _ _ _ _
      | exact ih1 _ _ _ _ _ _ _
      | exact LeO.none _
      | refine LeO.ite ?_ ?_
      | refine LeO.bind ?_ (fun _ => ?_)
    · intro y0 y1 y2 y3 y4 y5 y6
      unfold spec_EqualMatrices.l1
      repeat' first
      | (with_reducible exact ih0 _ _ _ _)
      | (with_reducible exact ih1 _ _ _ _ _ _ _)
      | (with_reducible exact LeO.refl _)
      | (with_reducible exact LeO.none _)
      | (with_reducible refine LeO.ite ?_ ?_)
      | (with_reducible refine LeO.bind ?_ (fun _ => ?_))
      | exact ih0 _ _ _ _
      | exact ih1 _ _ _ _ _ _ _
      | exact LeO.none _
      | refine LeO.ite ?_ ?_
      | refine LeO.bind ?_ (fun _ => ?_)
theorem spec_EqualMatrices.mono : ∀ a0 a1 k, LeO (spec_EqualMatrices.f k a0 a1) (spec_EqualMatrices.f (k + 1) a0 a1) := by
  intro a0 a1 k
  obtain ⟨ih0, ih1⟩ := spec_EqualMatrices.mono_l k
  unfold spec_EqualMatrices.f
  repeat' first
      | (with_reducible exact ih0 _ _ _ _)
      | (with_reducible exact ih1 _ _ _ _ _ _ _)
      | (with_reducible exact LeO.refl _)
      | (with_reducible exact LeO.none _)
      | (with_reducible refine LeO.ite ?_ ?_)
      | (with_reducible refine LeO.bind ?_ (fun _ => ?_))
      | exact ih0 _ _ _ _
      | exact ih1 _ _ _ _ _ _ _
      | exact LeO.none _
      | refine LeO.ite ?_ ?_
      | refine LeO.bind ?_ (fun _ => ?_)
set_option maxHeartbeats 8000000 in
set_option maxRecDepth 100000 in
theorem spec_EqualMatrices.calls (k : Nat) (A0 : Option Addr) (c0 : Nat) (l0 : List (List Int)) (A1 : Option Addr) (c1 : Nat) (l1 : List (List Int)) (r : Bool) (w : World) (hr0 : Kd.C (Kd.slice 5 (Kd.int .u8)) w A0 l0.length l0) (hc0 : l0.length ≤ c0) (hr1 : Kd.C (Kd.slice 5 (Kd.int .u8)) w A1 l1.length l1) (hc1 : l1.length ≤ c1) (h : spec_EqualMatrices.f k l0 l1 = some r) :
    Calls Tryd.prog 23 #[.slice A0 l0.length c0, .slice A1 l1.length c1] w fun e w' => e = .returned (.bool r) ∧ Drawn0 w w' := by
  have HR0 := Aside0.mk hr0
  have HC0 := Aside0.mk hc0
  clear hr0 hc0
  have HR1 := Aside0.mk hr1
  have HC1 := Aside0.mk hc1
  clear hr1 hc1
  have H : (if (l0.length : Int) = (l1.length : Int) then (spec_EqualMatrices.l0 k l0 l1 (l0.length : Int) 0) else (some false)) = some r := h
  clear h
  by_cases c3 : (l0.length : Int) = (l1.length : Int)
  · rw [if_pos c3] at H
    have c3b0 : ((l0.length : Int) == (l1.length : Int)) = true := beq_iff_eq.mpr c3
    have c3b1 : ((l0.length : Int) != (l1.length : Int)) = false := bne_eq_false_iff_eq.mpr c3
    have c3b2 : (l0.length == l1.length) = true := by first | simpa using c3 | (simp at c3 ⊢; omega)
    clear c3
    have H' := Aside0.mk H
    clear H
    go_enter Tryd.func23, Tryd.ntmps23
    go_wp2
    repeat (go_quiet (fail); try go_wp2)
    try simp only [Act.put, List.setIfInBounds_toArray, List.set_cons_zero, List.set_cons_succ]
    go_loopg [14] k (fun kq v14 w' => ∃ (x14_1 : Int), v14 = .int .i64 x14_1 ∧ Aside0 (spec_EqualMatrices.l0 kq l0 l1 (l0.length : Int) x14_1 = some r) ∧ Aside0 (kq ≤ k) ∧ Drawn0 w w')
    case atStart => exact ⟨(0), (by first | rfl | (simp; done) | (simp [*]; done)), H', ⟨Nat.le_refl _⟩, by repeat (first | exact Drawn0.refl _ | apply Drawn0.step)⟩
    case round =>
      clear H'
      try clear c1
      try clear c2
      try clear p2
      try clear c3
      try clear c3b0
      try clear c3b1
      try clear c3b2
      obtain ⟨x14_1, rfl, HA, HK1, ⟨m1, rfl⟩⟩ := hrel
      cases gk with
      | zero => exact absurd HA.out (by simp [spec_EqualMatrices.l0])
      | succ k1 =>
        have H := HA.out
        clear HA
        simp only [spec_EqualMatrices.l0] at H
        by_cases c4 : x14_1 < (l0.length : Int)
        · rw [if_pos c4] at H
          have c4b0 : decide (x14_1 < (l0.length : Int)) = true := decide_eq_true c4
          clear c4
          by_cases c5 : 0 ≤ x14_1
          · rw [if_pos c5] at H
            have c5b0 : decide (0 ≤ x14_1) = true := decide_eq_true c5
            clear c5
            by_cases c6 : x14_1 < (l0.length : Int)
            · rw [if_pos c6] at H
              have c6b0 : decide (x14_1 < (l0.length : Int)) = true := decide_eq_true c6
              clear c6
              by_cases c7 : x14_1 < (l1.length : Int)
              · rw [if_pos c7] at H
                have c7b0 : decide (x14_1 < (l1.length : Int)) = true := decide_eq_true c7
                clear c7
                by_cases c8 : ((rd_L1 l0 x14_1).length : Int) = ((rd_L1 l1 x14_1).length : Int)
                · rw [if_pos c8] at H
                  have c8b0 : (((rd_L1 l0 x14_1).length : Int) == ((rd_L1 l1 x14_1).length : Int)) = true := beq_iff_eq.mpr c8
                  have c8b1 : (((rd_L1 l0 x14_1).length : Int) != ((rd_L1 l1 x14_1).length : Int)) = false := bne_eq_false_iff_eq.mpr c8
                  have c8b2 : ((rd_L1 l0 x14_1).length == (rd_L1 l1 x14_1).length) = true := by first | simpa using c8 | (simp at c8 ⊢; omega)
                  clear c8
                  have H' := Aside0.mk H
                  clear H
                  have p138 : 0 ≤ (x14_1 : Int) := of_decide_eq_true (by first | (with_reducible assumption) | assumption)
                  have q138 : x14_1 < (l0.length : Int) := of_decide_eq_true (by first | (with_reducible assumption) | assumption)
                  obtain ⟨ad138, A138_0, c138_0, e138, hx138_0, hl138_0, hi138_0⟩ := at_L1 HR0.out x14_1 p138 q138
                  cases e138
                  have HR138_0 := Aside0.mk hi138_0
                  have HC138_0 := Aside0.mk hl138_0
                  clear hi138_0 hl138_0
                  replace p138 := eq_true p138
                  replace q138 := eq_true q138
                  have p139 : 0 ≤ (x14_1 : Int) := of_decide_eq_true (by first | (with_reducible assumption) | assumption)
                  have q139 : x14_1 < (l1.length : Int) := of_decide_eq_true (by first | (with_reducible assumption) | assumption)
                  obtain ⟨ad139, A139_0, c139_0, e139, hx139_0, hl139_0, hi139_0⟩ := at_L1 HR1.out x14_1 p139 q139
                  cases e139
                  have HR139_0 := Aside0.mk hi139_0
                  have HC139_0 := Aside0.mk hl139_0
                  clear hi139_0 hl139_0
                  replace p139 := eq_true p139
                  replace q139 := eq_true q139
                  have p140 : 0 ≤ (x14_1 : Int) := of_decide_eq_true (by first | (with_reducible assumption) | assumption)
                  have q140 : x14_1 < (l0.length : Int) := of_decide_eq_true (by first | (with_reducible assumption) | assumption)
                  obtain ⟨ad140, A140_0, c140_0, e140, hx140_0, hl140_0, hi140_0⟩ := at_L1 HR0.out x14_1 p140 q140
                  obtain rfl : ad138 = ad140 := (by injection e140)
                  have HR140_0 := Aside0.mk hi140_0
                  have HC140_0 := Aside0.mk hl140_0
                  clear hi140_0 hl140_0
                  replace p140 := eq_true p140
                  replace q140 := eq_true q140
                  have ea_ := Option.some.inj (hx138_0.symm.trans hx140_0)
                  injection ea_ with ea_ en_ ec_
                  subst ea_
                  subst ec_
                  clear en_
                  go_wp2
                  repeat (go_quiet (fail); try go_wp2)
                  try simp only [Act.put, List.setIfInBounds_toArray, List.set_cons_zero, List.set_cons_succ]
                  go_loopg [33] k1 (fun kq v33 w' => ∃ (x33_2 : Int), v33 = .int .i64 x33_2 ∧ Aside0 (spec_EqualMatrices.l1 kq l0 l1 x14_1 (l0.length : Int) x14_1 ((rd_L1 l0 x14_1).length : Int) x33_2 = some r) ∧ Aside0 (kq ≤ k1) ∧ Drawn0 w w')
                  case atStart => exact ⟨(0), (by first | rfl | (simp; done) | (simp [*]; done)), H', ⟨Nat.le_refl _⟩, by repeat (first | exact Drawn0.refl _ | apply Drawn0.step)⟩
                  case round =>
                    clear H'
                    try clear c1
                    try clear p1
                    try clear q1
                    try clear hx1
                    try clear c2
                    try clear p2
                    try clear c3
                    try clear c3b0
                    try clear c3b1
                    try clear c3b2
                    try clear c4
                    try clear c4b0
                    try clear c5
                    try clear c5b0
                    try clear c6
                    try clear c6b0
                    try clear c7
                    try clear c7b0
                    try clear c8
                    try clear c8b0
                    try clear c8b1
                    try clear c8b2
                    try clear hx138_0
                    try clear hx139_0
                    try clear hx140_0
                    try clear p138
                    try clear p139
                    try clear p140
                    try clear p2
                    try clear q138
                    try clear q139
                    try clear q140
                    obtain ⟨x33_2, rfl, HA, HK2, ⟨m2, rfl⟩⟩ := hrel
                    cases gk with
                    | zero => exact absurd HA.out (by simp [spec_EqualMatrices.l1])
                    | succ k2 =>
                      have H := HA.out
                      clear HA
                      simp only [spec_EqualMatrices.l1] at H
                      by_cases c9 : x33_2 < ((rd_L1 l0 x14_1).length : Int)
                      · rw [if_pos c9] at H
                        have c9b0 : decide (x33_2 < ((rd_L1 l0 x14_1).length : Int)) = true := decide_eq_true c9
                        clear c9
                        by_cases c10 : 0 ≤ x14_1
                        · rw [if_pos c10] at H
                          have c10b0 : decide (0 ≤ x14_1) = true := decide_eq_true c10
                          clear c10
                          by_cases c11 : x14_1 < (l0.length : Int)
                          · rw [if_pos c11] at H
                            have c11b0 : decide (x14_1 < (l0.length : Int)) = true := decide_eq_true c11
                            clear c11
                            by_cases c12 : 0 ≤ x33_2
                            · rw [if_pos c12] at H
                              have c12b0 : decide (0 ≤ x33_2) = true := decide_eq_true c12
                              clear c12
                              by_cases c13 : x33_2 < ((rd_L1 l0 x14_1).length : Int)
                              · rw [if_pos c13] at H
                                have c13b0 : decide (x33_2 < ((rd_L1 l0 x14_1).length : Int)) = true := decide_eq_true c13
                                clear c13
                                by_cases c14 : x14_1 < (l1.length : Int)
                                · rw [if_pos c14] at H
                                  have c14b0 : decide (x14_1 < (l1.length : Int)) = true := decide_eq_true c14
                                  clear c14
                                  by_cases c15 : x33_2 < ((rd_L1 l1 x14_1).length : Int)
                                  · rw [if_pos c15] at H
                                    have c15b0 : decide (x33_2 < ((rd_L1 l1 x14_1).length : Int)) = true := decide_eq_true c15
                                    clear c15
                                    by_cases c16 : (rd (rd_L1 l0 x14_1) x33_2) = (rd (rd_L1 l1 x14_1) x33_2)
                                    · rw [if_pos c16] at H
                                      have c16b0 : ((rd (rd_L1 l0 x14_1) x33_2) == (rd (rd_L1 l1 x14_1) x33_2)) = true := beq_iff_eq.mpr c16
                                      have c16b1 : ((rd (rd_L1 l0 x14_1) x33_2) != (rd (rd_L1 l1 x14_1) x33_2)) = false := bne_eq_false_iff_eq.mpr c16
                                      clear c16
                                      have H' := Aside0.mk H
                                      clear H
                                      have p141 : 0 ≤ (x14_1 : Int) := of_decide_eq_true (by first | (with_reducible assumption) | assumption)
                                      have q141 : x14_1 < (l0.length : Int) := of_decide_eq_true (by first | (with_reducible assumption) | assumption)
                                      obtain ⟨ad141, A141_0, c141_0, e141, hx141_0, hl141_0, hi141_0⟩ := at_L1 HR0.out x14_1 p141 q141
                                      obtain rfl : ad138 = ad141 := (by injection e141)
                                      have HR141_0 := Aside0.mk hi141_0
                                      have HC141_0 := Aside0.mk hl141_0
                                      clear hi141_0 hl141_0
                                      replace p141 := eq_true p141
                                      replace q141 := eq_true q141
                                      have p142 : 0 ≤ (x33_2 : Int) := of_decide_eq_true (by first | (with_reducible assumption) | assumption)
                                      have q142 : x33_2 < ((rd_L1 l0 x14_1).length : Int) := of_decide_eq_true (by first | (with_reducible assumption) | assumption)
                                      obtain ⟨ad142, e142, hx142_0⟩ := Kd.at_int HR141_0.out x33_2 p142 q142
                                      cases e142
                                      replace p142 := eq_true p142
                                      replace q142 := eq_true q142
                                      have p143 : 0 ≤ (x14_1 : Int) := of_decide_eq_true (by first | (with_reducible assumption) | assumption)
                                      have q143 : x14_1 < (l1.length : Int) := of_decide_eq_true (by first | (with_reducible assumption) | assumption)
                                      obtain ⟨ad143, A143_0, c143_0, e143, hx143_0, hl143_0, hi143_0⟩ := at_L1 HR1.out x14_1 p143 q143
                                      obtain rfl : ad139 = ad143 := (by injection e143)
                                      have HR143_0 := Aside0.mk hi143_0
                                      have HC143_0 := Aside0.mk hl143_0
                                      clear hi143_0 hl143_0
                                      replace p143 := eq_true p143
                                      replace q143 := eq_true q143
                                      have p144 : 0 ≤ (x33_2 : Int) := of_decide_eq_true (by first | (with_reducible assumption) | assumption)
                                      have q144 : x33_2 < ((rd_L1 l1 x14_1).length : Int) := of_decide_eq_true (by first | (with_reducible assumption) | assumption)
                                      obtain ⟨ad144, e144, hx144_0⟩ := Kd.at_int HR143_0.out x33_2 p144 q144
                                      cases e144
                                      replace p144 := eq_true p144
                                      replace q144 := eq_true q144
                                      go_wp2
                                      repeat (go_quiet (fail); try go_wp2)
                                      go_roundg k2
                                      case measure => have := HK1.out; have := HK2.out; omega
                                      case rel => exact ⟨(wrap64 (x33_2 + 1)), (by first | rfl | (simp; done) | (simp [*]; done)), H', ⟨by have := HK1.out; have := HK2.out; omega⟩, by repeat (first | exact Drawn0.refl _ | apply Drawn0.step)⟩
                                    · rw [if_neg c16] at H
                                      have c16b0 : ((rd (rd_L1 l0 x14_1) x33_2) == (rd (rd_L1 l1 x14_1) x33_2)) = false := beq_eq_false_iff_ne.mpr c16
                                      have c16b1 : ((rd (rd_L1 l0 x14_1) x33_2) != (rd (rd_L1 l1 x14_1) x33_2)) = true := bne_iff_ne.mpr c16
                                      obtain rfl := Option.some.inj H
                                      have p141 : 0 ≤ (x14_1 : Int) := of_decide_eq_true (by first | (with_reducible assumption) | assumption)
                                      have q141 : x14_1 < (l0.length : Int) := of_decide_eq_true (by first | (with_reducible assumption) | assumption)
                                      obtain ⟨ad141, A141_0, c141_0, e141, hx141_0, hl141_0, hi141_0⟩ := at_L1 HR0.out x14_1 p141 q141
                                      obtain rfl : ad138 = ad141 := (by injection e141)
                                      have HR141_0 := Aside0.mk hi141_0
                                      have HC141_0 := Aside0.mk hl141_0
                                      clear hi141_0 hl141_0
                                      replace p141 := eq_true p141
                                      replace q141 := eq_true q141
                                      have p142 : 0 ≤ (x33_2 : Int) := of_decide_eq_true (by first | (with_reducible assumption) | assumption)
                                      have q142 : x33_2 < ((rd_L1 l0 x14_1).length : Int) := of_decide_eq_true (by first | (with_reducible assumption) | assumption)
                                      obtain ⟨ad142, e142, hx142_0⟩ := Kd.at_int HR141_0.out x33_2 p142 q142
                                      cases e142
                                      replace p142 := eq_true p142
                                      replace q142 := eq_true q142
                                      have p143 : 0 ≤ (x14_1 : Int) := of_decide_eq_true (by first | (with_reducible assumption) | assumption)
                                      have q143 : x14_1 < (l1.length : Int) := of_decide_eq_true (by first | (with_reducible assumption) | assumption)
                                      obtain ⟨ad143, A143_0, c143_0, e143, hx143_0, hl143_0, hi143_0⟩ := at_L1 HR1.out x14_1 p143 q143
                                      obtain rfl : ad139 = ad143 := (by injection e143)
                                      have HR143_0 := Aside0.mk hi143_0
                                      have HC143_0 := Aside0.mk hl143_0
                                      clear hi143_0 hl143_0
                                      replace p143 := eq_true p143
                                      replace q143 := eq_true q143
                                      have p144 : 0 ≤ (x33_2 : Int) := of_decide_eq_true (by first | (with_reducible assumption) | assumption)
                                      have q144 : x33_2 < ((rd_L1 l1 x14_1).length : Int) := of_decide_eq_true (by first | (with_reducible assumption) | assumption)
                                      obtain ⟨ad144, e144, hx144_0⟩ := Kd.at_int HR143_0.out x33_2 p144 q144
                                      cases e144
                                      replace p144 := eq_true p144
                                      replace q144 := eq_true q144
                                      go_wp2
                                      repeat (go_quiet (fail); try go_wp2)
                                      go_ret
                                      exact ⟨by first | rfl | (simp; done) | (simp [*]; done), by repeat (first | exact Drawn0.refl _ | apply Drawn0.step)⟩
                                  · rw [if_neg c15] at H
                                    exact absurd H (by simp)
                                · rw [if_neg c14] at H
                                  exact absurd H (by simp)
                              · rw [if_neg c13] at H
                                exact absurd H (by simp)
                            · rw [if_neg c12] at H
                              exact absurd H (by simp)
                          · rw [if_neg c11] at H
                            exact absurd H (by simp)
                        · rw [if_neg c10] at H
                          exact absurd H (by simp)
                      · rw [if_neg c9] at H
                        have c9b0 : decide (x33_2 < ((rd_L1 l0 x14_1).length : Int)) = false := decide_eq_false c9
                        clear c9
                        have H' := Aside0.mk H
                        clear H
                        go_wp2
                        repeat (go_quiet (fail); try go_wp2)
                        go_roundg k2
                        case measure => have := HK1.out; have := HK2.out; omega
                        case rel => exact ⟨(wrap64 (x14_1 + 1)), (by first | rfl | (simp; done) | (simp [*]; done)), H', ⟨by have := HK1.out; have := HK2.out; omega⟩, by repeat (first | exact Drawn0.refl _ | apply Drawn0.step)⟩
                · rw [if_neg c8] at H
                  have c8b0 : (((rd_L1 l0 x14_1).length : Int) == ((rd_L1 l1 x14_1).length : Int)) = false := beq_eq_false_iff_ne.mpr c8
                  have c8b1 : (((rd_L1 l0 x14_1).length : Int) != ((rd_L1 l1 x14_1).length : Int)) = true := bne_iff_ne.mpr c8
                  have c8b2 : ((rd_L1 l0 x14_1).length == (rd_L1 l1 x14_1).length) = false := by first | simpa using c8 | (simp at c8 ⊢; omega)
                  obtain rfl := Option.some.inj H
                  have p138 : 0 ≤ (x14_1 : Int) := of_decide_eq_true (by first | (with_reducible assumption) | assumption)
                  have q138 : x14_1 < (l0.length : Int) := of_decide_eq_true (by first | (with_reducible assumption) | assumption)
                  obtain ⟨ad138, A138_0, c138_0, e138, hx138_0, hl138_0, hi138_0⟩ := at_L1 HR0.out x14_1 p138 q138
                  cases e138
                  have HR138_0 := Aside0.mk hi138_0
                  have HC138_0 := Aside0.mk hl138_0
                  clear hi138_0 hl138_0
                  replace p138 := eq_true p138
                  replace q138 := eq_true q138
                  have p139 : 0 ≤ (x14_1 : Int) := of_decide_eq_true (by first | (with_reducible assumption) | assumption)
                  have q139 : x14_1 < (l1.length : Int) := of_decide_eq_true (by first | (with_reducible assumption) | assumption)
                  obtain ⟨ad139, A139_0, c139_0, e139, hx139_0, hl139_0, hi139_0⟩ := at_L1 HR1.out x14_1 p139 q139
                  cases e139
                  have HR139_0 := Aside0.mk hi139_0
                  have HC139_0 := Aside0.mk hl139_0
                  clear hi139_0 hl139_0
                  replace p139 := eq_true p139
                  replace q139 := eq_true q139
                  go_wp2
                  repeat (go_quiet (fail); try go_wp2)
                  go_ret
                  exact ⟨by first | rfl | (simp; done) | (simp [*]; done), by repeat (first | exact Drawn0.refl _ | apply Drawn0.step)⟩
              · rw [if_neg c7] at H
                exact absurd H (by simp)
            · rw [if_neg c6] at H
              exact absurd H (by simp)
          · rw [if_neg c5] at H
            exact absurd H (by simp)
        · rw [if_neg c4] at H
          have c4b0 : decide (x14_1 < (l0.length : Int)) = false := decide_eq_false c4
          clear c4
          obtain rfl := Option.some.inj H
          go_wp2
          repeat (go_quiet (fail); try go_wp2)
          go_ret
          exact ⟨by first | rfl | (simp; done) | (simp [*]; done), by repeat (first | exact Drawn0.refl _ | apply Drawn0.step)⟩
  · rw [if_neg c3] at H
    have c3b0 : ((l0.length : Int) == (l1.length : Int)) = false := beq_eq_false_iff_ne.mpr c3
    have c3b1 : ((l0.length : Int) != (l1.length : Int)) = true := bne_iff_ne.mpr c3
    have c3b2 : (l0.length == l1.length) = false := by first | simpa using c3 | (simp at c3 ⊢; omega)
    obtain rfl := Option.some.inj H
    go_enter Tryd.func23, Tryd.ntmps23
    go_wp2
    repeat (go_quiet (fail); try go_wp2)
    go_ret
    exact ⟨by first | rfl | (simp; done) | (simp [*]; done), by repeat (first | exact Drawn0.refl _ | apply Drawn0.step)⟩

end Go.Proofs.YtladpdeneiaaeaaDoor.PInv
