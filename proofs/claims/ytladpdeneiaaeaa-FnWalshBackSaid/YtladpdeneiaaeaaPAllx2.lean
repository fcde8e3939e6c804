-- Written by a program of this session (wip/tools)
import Derived.Test.YtladpdeneiaaeaaPAllx0
import Derived.Test.YtladpdeneiaaeaaPAllx1
import Derived.Test.YtladpdeneiaaeaaExtImplWalsh
namespace Go.Proofs.Ytladpdeneiaaeaa.PAll
open Go.RowKit Go.Proofs.YtladpdeneiaaeaaW.PrintWords Go.Proofs.YtladpdeneiaaeaaW.PrintLast Go.Proofs.YtladpdeneiaaeaaW.PrintMore
attribute [local go_sem] max2_int min2_int max_two min_two max_three min_three max_four min_four   -- for this text's walks alone
set_option linter.unusedVariables false
set_option linter.unusedSimpArgs false

/-! ### laws_FnWalshBack: function 3 -/
mutual
def laws_FnWalshBack.j0 : Nat → List Int → List Int → Bool → Option (Bool)
  | 0, _, _, _ => none
  | k + 1, x0, x1, x19 => if x19 = true then (some true) else (if (x0.length : Int) = 256 then (laws_FnWalshBack.j1 k x0 x1 ((x1.length : Int) != 256)) else (laws_FnWalshBack.j1 k x0 x1 true))
def laws_FnWalshBack.j1 : Nat → List Int → List Int → Bool → Option (Bool)
  | 0, _, _, _ => none
  | k + 1, x0, x1, x27 => if x27 = true then (some true) else (if 256 ≤ 281474976710656 then ((some (List.replicate 256 0 : List Int)).bind fun y103 => (laws_FnWalshBack.l0 k x0 x1 y103 (y103.length : Int) 0)) else (none))
def laws_FnWalshBack.l0 : Nat → List Int → List Int → List Int → Int → Int → Option (Bool)
  | 0, _, _, _, _, _ => none
  | k + 1, x0, x1, x5, x30, x31 => if x31 < x30 then (if 0 ≤ x31 then (if x31 < (x0.length : Int) then (if x31 < (x1.length : Int) then (if x31 < (x5.length : Int) then (laws_FnWalshBack.l0 k x0 x1 (x5.set (x31 : Int).toNat ((Int.tmod (wrap64 ((wrap64 (rd x0 x31)) + (wrap64 (rd x1 x31)))) 255) % 256)) x30 (wrap64 (x31 + 1))) else (none)) else (none)) else (none)) else (none)) else ((impl_Walsh.f x0 256).bind fun t109 => ((impl_Walsh.f x1 256).bind fun t112 => ((impl_Walsh.f x5 256).bind fun t115 => ((impl_Walsh.f t109 256).bind fun t118 => (if (t109.length : Int) = 256 then (if (t112.length : Int) = 256 then (if (t115.length : Int) = 256 then (laws_FnWalshBack.j3 k x0 x5 t109 t112 t115 t118 ((t118.length : Int) != 256)) else (laws_FnWalshBack.j3 k x0 x5 t109 t112 t115 t118 true)) else (laws_FnWalshBack.j3 k x0 x5 t109 t112 t115 t118 true)) else (laws_FnWalshBack.j3 k x0 x5 t109 t112 t115 t118 true))))))
def laws_FnWalshBack.j3 : Nat → List Int → List Int → List Int → List Int → List Int → List Int → Bool → Option (Bool)
  | 0, _, _, _, _, _, _, _ => none
  | k + 1, x0, x5, x7, x8, x9, x10, x76 => if x76 = true then (none) else (laws_FnWalshBack.l1 k x0 x7 x8 x9 x10 (x5.length : Int) 0)
def laws_FnWalshBack.l1 : Nat → List Int → List Int → List Int → List Int → List Int → Int → Int → Option (Bool)
  | 0, _, _, _, _, _, _, _ => none
  | k + 1, x0, x7, x8, x9, x10, x78, x79 => if x79 < x78 then (if 0 ≤ x79 then (if x79 < (x10.length : Int) then ((laws_mod.f (wrap64 (rd x10 x79))).bind fun t122 => (if x79 < (x0.length : Int) then ((laws_mod.f (wrap64 (rd x0 x79))).bind fun t124 => (if t122 = t124 then (if x79 < (x9.length : Int) then ((laws_mod.f (wrap64 (rd x9 x79))).bind fun t126 => (if x79 < (x7.length : Int) then (if x79 < (x8.length : Int) then ((laws_mod.f (wrap64 ((wrap64 (rd x7 x79)) + (wrap64 (rd x8 x79))))).bind fun t129 => (if t126 = t129 then (laws_FnWalshBack.l1 k x0 x7 x8 x9 x10 x78 (wrap64 (x79 + 1))) else (none))) else (none)) else (none))) else (none)) else (none))) else (none))) else (none)) else (none)) else (some true)
end
def laws_FnWalshBack.f (k : Nat) (l0 : List Int) (l1 : List Int) : Option (Bool) := if (l0.length : Int) > 2147483647 then (laws_FnWalshBack.j0 k l0 l1 true) else (laws_FnWalshBack.j0 k l0 l1 (decide ((l1.length : Int) > 2147483647)))
theorem laws_FnWalshBack.mono_l : ∀ k, (∀ y0 y1 y2, LeO (laws_FnWalshBack.j0 k y0 y1 y2) (laws_FnWalshBack.j0 (k + 1) y0 y1 y2)) ∧ (∀ y0 y1 y2, LeO (laws_FnWalshBack.j1 k y0 y1 y2) (laws_FnWalshBack.j1 (k + 1) y0 y1 y2)) ∧ (∀ y0 y1 y2 y3 y4, LeO (laws_FnWalshBack.l0 k y0 y1 y2 y3 y4) (laws_FnWalshBack.l0 (k + 1) y0 y1 y2 y3 y4)) ∧ (∀ y0 y1 y2 y3 y4 y5 y6, LeO (laws_FnWalshBack.j3 k y0 y1 y2 y3 y4 y5 y6) (laws_FnWalshBack.j3 (k + 1) y0 y1 y2 y3 y4 y5 y6)) ∧ (∀ y0 y1 y2 y3 y4 y5 y6, LeO (laws_FnWalshBack.l1 k y0 y1 y2 y3 y4 y5 y6) (laws_FnWalshBack.l1 (k + 1) y0 y1 y2 y3 y4 y5 y6))
  | 0 => ⟨fun _ _ _ r h => by simp [laws_FnWalshBack.j0] at h, fun _ _ _ r h => by simp [laws_FnWalshBack.j1] at h, fun _ _ _ _ _ r h => by simp [laws_FnWalshBack.l0] at h, fun _ _ _ _ _ _ _ r h => by simp [laws_FnWalshBack.j3] at h, fun _ _ _ _ _ _ _ r h => by simp [laws_FnWalshBack.l1] at h⟩
  | k + 1 => by
    obtain ⟨ih0, ih1, ih2, ih3, ih4⟩ := laws_FnWalshBack.mono_l k
    refine ⟨?_, ?_, ?_, ?_, ?_⟩
    · intro y0 y1 y2
      unfold laws_FnWalshBack.j0
      repeat' first
      | (with_reducible exact ih0 _ _ _)
      | (with_reducible exact ih1 _ _ _)
      | (with_reducible exact ih2 _ _ _ _ _)
      | (with_reducible exact ih3 _ _ _ _ _ _ _)
      | (with_reducible exact ih4 _ _ _ _ _ _ _)
      | (with_reducible exact LeO.refl _)
      | (with_reducible exact LeO.none _)
      | (with_reducible refine LeO.ite ?_ ?_)
      | (with_reducible refine LeO.bind ?_ (fun _ => ?_))
      | exact ih0 _ _ _
      | exact ih1 _ _ _
      | exact ih2 _ _ _ _ _
      | exact ih3 _ _ _ _ _ _ _
      | exact ih4 _ _ _ _ _ _ _
      | exact LeO.none _
      | refine LeO.ite ?_ ?_
      | refine LeO.bind ?_ (fun _ => ?_)
    · intro y0 y1 y2
      unfold laws_FnWalshBack.j1
      repeat' first
      | (with_reducible exact ih0 _ _ _)
      | (with_reducible exact ih1 _ _ _)
      | (with_reducible exact ih2 _ _ _ _ _)
      | (with_reducible exact ih3 _ _ _ _ _ _ _)
      | (with_reducible exact ih4 _ _ _ _ _ _ _)
      | (with_reducible exact LeO.refl _)
      | (with_reducible exact LeO.none _)
      | (with_reducible refine LeO.ite ?_ ?_)
      | (with_reducible refine LeO.bind ?_ (fun _ => ?_))
      | exact ih0 _ _ _
      | exact ih1 _ _ _
      | exact ih2 _ _ _ _ _
      | exact ih3 _ _ _ _ _ _ _
      | exact ih4 _ _ _ _ _ _ _
      | exact LeO.none _
      | refine LeO.ite ?_ ?_
      | refine LeO.bind ?_ (fun _ => ?_)
    · intro y0 y1 y2 y3 y4
      unfold laws_FnWalshBack.l0
      repeat' first
      | (with_reducible exact ih0 _ _ _)
      | (with_reducible exact ih1 _ _ _)
      | (with_reducible exact ih2 _ _ _ _ _)
      | (with_reducible exact ih3 _ _ _ _ _ _ _)
      | (with_reducible exact ih4 _ _ _ _ _ _ _)
      | (with_reducible exact LeO.refl _)
      | (with_reducible exact LeO.none _)
      | (with_reducible refine LeO.ite ?_ ?_)
      | (with_reducible refine LeO.bind ?_ (fun _ => ?_))
      | exact ih0 _ _ _
      | exact ih1 _ _ _
      | exact ih2 _ _ _ _ _
      | exact ih3 _ _ _ _ _ _ _
      | exact ih4 _ _ _ _ _ _ _
      | exact LeO.none _
      | refine LeO.ite ?_ ?_
      | refine LeO.bind ?_ (fun _ => ?_)
    · intro y0 y1 y2 y3 y4 y5 y6
      unfold laws_FnWalshBack.j3
      repeat' first
      | (with_reducible exact ih0 _ _ _)
      | (with_reducible exact ih1 _ _ _)
      | (with_reducible exact ih2 _ _ _ _ _)
      | (with_reducible exact ih3 _ _ _ _ _ _ _)
      | (with_reducible exact ih4 _ _ _ _ _ _ _)
      | (with_reducible exact LeO.refl _)
      | (with_reducible exact LeO.none _)
      | (with_reducible refine LeO.ite ?_ ?_)
      | (with_reducible refine LeO.bind ?_ (fun _ => ?_))
      | exact ih0 _ _ _
      | exact ih1 _ _ _
      | exact ih2 _ _ _ _ _
      | exact ih3 _ _ _ _ _ _ _
      | exact ih4 _ _ _ _ _ _ _
      | exact LeO.none _
      | refine LeO.ite ?_ ?_
      | refine LeO.bind ?_ (fun _ => ?_)
    · intro y0 y1 y2 y3 y4 y5 y6
      unfold laws_FnWalshBack.l1
      repeat' first
      | (with_reducible exact ih0 _ _ _)
      | (with_reducible exact ih1 _ _ _)
      | (with_reducible exact ih2 _ _ _ _ _)
      | (with_reducible exact ih3 _ _ _ _ _ _ _)
      | (with_reducible exact ih4 _ _ _ _ _ _ _)
      | (with_reducible exact LeO.refl _)
      | (with_reducible exact LeO.none _)
      | (with_reducible refine LeO.ite ?_ ?_)
      | (with_reducible refine LeO.bind ?_ (fun _ => ?_))
      | exact ih0 _ _ _
      | exact ih1 _ _ _
      | exact ih2 _ _ _ _ _
      | exact ih3 _ _ _ _ _ _ _
      | exact ih4 _ _ _ _ _ _ _
      | exact LeO.none _
      | refine LeO.ite ?_ ?_
      | refine LeO.bind ?_ (fun _ => ?_)
theorem laws_FnWalshBack.mono : ∀ a0 a1 k, LeO (laws_FnWalshBack.f k a0 a1) (laws_FnWalshBack.f (k + 1) a0 a1) := by
  intro a0 a1 k
  obtain ⟨ih0, ih1, ih2, ih3, ih4⟩ := laws_FnWalshBack.mono_l k
  unfold laws_FnWalshBack.f
  repeat' first
      | (with_reducible exact ih0 _ _ _)
      | (with_reducible exact ih1 _ _ _)
      | (with_reducible exact ih2 _ _ _ _ _)
      | (with_reducible exact ih3 _ _ _ _ _ _ _)
      | (with_reducible exact ih4 _ _ _ _ _ _ _)
      | (with_reducible exact LeO.refl _)
      | (with_reducible exact LeO.none _)
      | (with_reducible refine LeO.ite ?_ ?_)
      | (with_reducible refine LeO.bind ?_ (fun _ => ?_))
      | exact ih0 _ _ _
      | exact ih1 _ _ _
      | exact ih2 _ _ _ _ _
      | exact ih3 _ _ _ _ _ _ _
      | exact ih4 _ _ _ _ _ _ _
      | exact LeO.none _
      | refine LeO.ite ?_ ?_
      | refine LeO.bind ?_ (fun _ => ?_)
def laws_FnWalshBack.T9 : Bool × List (List Nat × List Nat) := (true, [([], []), ([], []), ([], []), ([], []), ([2, 3], [2, 3]), ([4], [4]), ([5], [5]), ([], []), ([], []), ([7, 8], [7, 8]), ([9], [9]), ([10], [10]), ([6, 11], [6, 11]), ([12], [12]), ([13], [13]), ([0, 1, 0, 1, 2, 3, 4, 5, 6, 7, 8, 9, 10, 11, 12, 13, 14], [0, 1]), ([15, 14, 0, 1, 2, 3, 4, 5, 6, 7, 8, 9, 10, 11, 12, 13, 14], [14, 15])])
def laws_FnWalshBack.B9 : List Nat := [0, 0, 0, 0, 12, 28, 60, 0, 0, 384, 896, 1920, 4092, 8188, 16380, 32767, 65535]
theorem laws_FnWalshBack.tab9 : rtab .any (opsOf Try.f3 9) = laws_FnWalshBack.T9 := by kernel_rfl
theorem laws_FnWalshBack.bits9 : waitsOk laws_FnWalshBack.T9.2 laws_FnWalshBack.B9 = true := by kernel_rfl
def laws_FnWalshBack.T18 : Bool × List (List Nat × List Nat) := (true, [([], []), ([], []), ([0, 1], [0, 1]), ([2], [2]), ([3], [3]), ([4], [4]), ([], []), ([], []), ([6, 7], [6, 7]), ([8], [8]), ([9], [9]), ([10, 5], [10]), ([5, 11], [5, 11]), ([12, 11], [12]), ([13], [13]), ([13], [13]), ([14, 15, 13], [13, 14, 15]), ([16, 13], [13, 16]), ([17, 13], [13, 17]), ([18, 13, 13], [13, 18]), ([13], [13]), ([13], [13]), ([20, 21, 13], [13, 20, 21]), ([22, 13], [13, 22]), ([23, 13], [13, 23]), ([13], [13]), ([13], [13]), ([25, 26, 13], [13, 25, 26]), ([27, 13], [13, 27]), ([28, 13], [13, 28]), ([24, 29, 13], [13, 24, 29]), ([30, 19, 13], [13, 30]), ([19, 31, 13], [13, 19, 31]), ([13, 32], [13, 32])])
def laws_FnWalshBack.B18 : List Nat := [0, 0, 3, 7, 15, 31, 0, 0, 192, 448, 960, 2047, 4095, 8191, 16383, 16383, 65535, 131071, 262143, 524287, 16383, 16383, 3162111, 7356415, 15745023, 16383, 16383, 100679679, 234897407, 503332863, 1072709631, 2147483647, 4294967295, 8589934591]
theorem laws_FnWalshBack.tab18 : rtab .any (opsOf Try.f3 18) = laws_FnWalshBack.T18 := by kernel_rfl
theorem laws_FnWalshBack.bits18 : waitsOk laws_FnWalshBack.T18.2 laws_FnWalshBack.B18 = true := by kernel_rfl
set_option maxHeartbeats 8000000 in
set_option maxRecDepth 100000 in
theorem laws_FnWalshBack.calls (k : Nat) (A0 : Option Addr) (c0 : Nat) (l0 : List Int) (A1 : Option Addr) (c1 : Nat) (l1 : List Int) (r : Bool) (w : World) (hr0 : Kd.C (Kd.int .u8) w A0 l0.length l0) (hc0 : l0.length ≤ c0) (hr1 : Kd.C (Kd.int .u8) w A1 l1.length l1) (hc1 : l1.length ≤ c1) (h : laws_FnWalshBack.f k l0 l1 = some r) :
    Calls Try.prog 3 #[.slice A0 l0.length c0, .slice A1 l1.length c1] w fun e w' => e = .returned (.bool r) ∧ Below w.heap.size w w' := by
  have HR0 := Aside0.mk hr0
  have HC0 := Aside0.mk hc0
  clear hr0 hc0
  have HR1 := Aside0.mk hr1
  have HC1 := Aside0.mk hc1
  clear hr1 hc1
  have HB := Aside0.mk (Below.refl w.heap.size w)
  have H : (if (l0.length : Int) > 2147483647 then (laws_FnWalshBack.j0 k l0 l1 true) else (laws_FnWalshBack.j0 k l0 l1 (decide ((l1.length : Int) > 2147483647)))) = some r := h
  clear h
  have HC3 := Aside0.mk H
  clear H
  go_enter Try.func3, Try.ntmps3
  go_upto_region 1 with (fail)
  go_cut [19] (fun v19 wc => ∃ (kq : Nat) (x19_2 : Bool), v19 = .bool x19_2 ∧ Aside0 (laws_FnWalshBack.j0 kq l0 l1 x19_2 = some r) ∧ Aside0 (kq ≤ k) ∧ Aside0 (Below w.heap.size w wc))
  case first =>
    have H := HC3.out
    clear HC3
    by_cases c4 : (l0.length : Int) > 2147483647
    · rw [if_pos c4] at H
      have c4b0 : decide (2147483647 < (l0.length : Int)) = true := decide_eq_true c4
      have c4b1 : decide (2147483647 < l0.length) = true := decide_eq_true (by omega)
      clear c4
      (first | rw [c4b0] | (simp only [i64_w, i32_w]; rw [c4b0]) | skip)
      have H' := Aside0.mk H
      clear H
      go_wp2
      go_meet
      case rel => exact ⟨_, (true), (by first | rfl | (simp; done) | (simp [*]; done)), H', ⟨by first | omega | exact Nat.le_refl _⟩, ⟨by repeat (first | (with_reducible first | exact HB.out | apply below_alloc | apply pw_below_drewN | apply below_drew1) | exact HB.out)⟩⟩
    · rw [if_neg c4] at H
      have c4b0 : decide (2147483647 < (l0.length : Int)) = false := decide_eq_false c4
      have c4b1 : decide (2147483647 < l0.length) = false := decide_eq_false (by omega)
      clear c4
      (first | rw [c4b0] | (simp only [i64_w, i32_w]; rw [c4b0]) | skip)
      have H' := Aside0.mk H
      clear H
      go_wp2
      go_meet
      case rel => exact ⟨_, (decide ((l1.length : Int) > 2147483647)), (by first | rfl | (simp; done) | (simp [*]; done)), H', ⟨by first | omega | exact Nat.le_refl _⟩, ⟨by repeat (first | (with_reducible first | exact HB.out | apply below_alloc | apply pw_below_drewN | apply below_drew1) | exact HB.out)⟩⟩
  case rest =>
    clear HC3
    try clear c1
    try clear p2
    try clear c3
    try clear c4
    try clear c4b0
    try clear c4b1
    obtain ⟨kq, x19_2, rfl, HA, HJ2, HB⟩ := hcut
    cases kq with
    | zero => exact absurd HA.out (by simp [laws_FnWalshBack.j0])
    | succ kj2 =>
      have H := HA.out
      clear HA
      simp only [laws_FnWalshBack.j0] at H
      by_cases c5 : x19_2 = true
      · subst c5
        have H1 : (some true) = some r := by rw [if_pos rfl] at H; exact H
        clear H
        have H := H1
        clear H1
        obtain rfl := Option.some.inj H
        go_wp2
        go_ret
        exact ⟨by first | rfl | (simp [errW_none, errW_some] <;> rfl) | (simp [*, errW_none, errW_some] <;> rfl), by repeat (first | (with_reducible first | exact HB.out | apply below_alloc | apply pw_below_drewN | apply below_drew1) | exact HB.out)⟩
      · replace c5 := Bool.eq_false_iff.mpr c5
        subst c5
        have H1 : (if (l0.length : Int) = 256 then (laws_FnWalshBack.j1 kj2 l0 l1 ((l1.length : Int) != 256)) else (laws_FnWalshBack.j1 kj2 l0 l1 true)) = some r := by rw [if_neg (show ¬ (false = true) by decide)] at H; exact H
        clear H
        have H := H1
        clear H1
        have HC6 := Aside0.mk H
        clear H
        go_upto_region 3 with (fail)
        go_cut [27] (fun v27 wc => ∃ (kq : Nat) (x27_5 : Bool), v27 = .bool x27_5 ∧ Aside0 (laws_FnWalshBack.j1 kq l0 l1 x27_5 = some r) ∧ Aside0 (kq ≤ kj2) ∧ Aside0 (Below w.heap.size w wc))
        case first =>
          have H := HC6.out
          clear HC6
          by_cases c7 : (l0.length : Int) = 256
          · rw [if_pos c7] at H
            have c7b0 : ((l0.length : Int) == 256) = true := beq_iff_eq.mpr c7
            have c7b1 : ((l0.length : Int) != 256) = false := bne_eq_false_iff_eq.mpr c7
            clear c7
            (first | rw [c7b0] | (simp only [i64_w, i32_w]; rw [c7b0]) | skip)
            have H' := Aside0.mk H
            clear H
            go_wp2
            go_meet
            case rel => exact ⟨_, (((l1.length : Int) != 256)), (by first | rfl | (simp; done) | (simp [*]; done)), H', ⟨by have := HJ2.out; first | omega | exact Nat.le_refl _⟩, ⟨by repeat (first | (with_reducible first | exact HB.out | apply below_alloc | apply pw_below_drewN | apply below_drew1) | exact HB.out)⟩⟩
          · rw [if_neg c7] at H
            have c7b0 : ((l0.length : Int) == 256) = false := beq_eq_false_iff_ne.mpr c7
            have c7b1 : ((l0.length : Int) != 256) = true := bne_iff_ne.mpr c7
            (first | rw [c7b0] | (simp only [i64_w, i32_w]; rw [c7b0]) | skip)
            have H' := Aside0.mk H
            clear H
            go_wp2
            go_meet
            case rel => exact ⟨_, (true), (by first | rfl | (simp; done) | (simp [*]; done)), H', ⟨by have := HJ2.out; first | omega | exact Nat.le_refl _⟩, ⟨by repeat (first | (with_reducible first | exact HB.out | apply below_alloc | apply pw_below_drewN | apply below_drew1) | exact HB.out)⟩⟩
        case rest =>
          clear HC6
          try clear c1
          try clear p2
          try clear c3
          try clear c4
          try clear c4b0
          try clear c4b1
          try clear c5
          try clear c7
          try clear c7b0
          try clear c7b1
          try clear p2
          obtain ⟨kq, x27_5, rfl, HA, HJ5, HB⟩ := hcut
          cases kq with
          | zero => exact absurd HA.out (by simp [laws_FnWalshBack.j1])
          | succ kj5 =>
            have H := HA.out
            clear HA
            simp only [laws_FnWalshBack.j1] at H
            by_cases c8 : x27_5 = true
            · subst c8
              have H1 : (some true) = some r := by rw [if_pos rfl] at H; exact H
              clear H
              have H := H1
              clear H1
              obtain rfl := Option.some.inj H
              go_wp2
              go_ret
              exact ⟨by first | rfl | (simp [errW_none, errW_some] <;> rfl) | (simp [*, errW_none, errW_some] <;> rfl), by repeat (first | (with_reducible first | exact HB.out | apply below_alloc | apply pw_below_drewN | apply below_drew1) | exact HB.out)⟩
            · replace c8 := Bool.eq_false_iff.mpr c8
              subst c8
              have H1 : (if 256 ≤ 281474976710656 then ((some (List.replicate 256 0 : List Int)).bind fun y103 => (laws_FnWalshBack.l0 kj5 l0 l1 y103 (y103.length : Int) 0)) else (none)) = some r := by rw [if_neg (show ¬ (false = true) by decide)] at H; exact H
              clear H
              have H := H1
              clear H1
              by_cases c9 : 256 ≤ 281474976710656
              · rw [if_pos c9] at H
                have c9b0 := eq_true c9
                have c9b1 : decide (256 ≤ 281474976710656) = true := decide_eq_true c9
                clear c9
                obtain ⟨y103, hy103⟩ : ∃ y_ : List Int, y_ = (List.replicate 256 0) := ⟨_, rfl⟩
                replace H : (laws_FnWalshBack.l0 kj5 l0 l1 y103 (y103.length : Int) 0) = some r := by first | (rw [hy103]; with_reducible exact H) | (have H2_ := (Option.bind_some _ _).symm.trans H; rw [hy103]; with_reducible exact H2_) | (have H2_ := (Option.bind_some _ _).symm.trans H; with_reducible exact H2_) | with_reducible exact H | (rw [hy103]; exact H) | exact H
                have Ny103 := Aside0.mk hy103
                clear hy103
                have H' := Aside0.mk H
                clear H
                go_wp2_with (first | ((with_reducible refine gate_dst (N := 28) rfl ?_); (try (refine gate_guard (by rfl) ?_; dsimp only)); refine Kd.R_make (Kd.int .u8) _ 5 rfl (N := 28) rfl 22 _ _ rfl 256 rfl rfl Try.underlying22 (.int .u8 0) 1 info5 rfl (by decide) (by omega) 0 (ok := fun _ => True) (okp := fun _ => True) rfl (fun _ hk => hk) trivial (by omega) (by omega) (Below.refl _ _) (Nat.le_refl _) ?_; intro v104 w10 ho11 hb hg_ hnew_; clear hg_ hnew_; (first | rw [← Ny103.out] at ho11 | (simp only [Int.reduceToNat] at ho11; rw [← Ny103.out] at ho11)); have n0_ := Aside0.mk (Kd.R_lower ho11 (below_size (by repeat (first | (with_reducible first | exact HB.out | apply below_alloc | apply pw_below_drewN | apply below_drew1) | exact HB.out)))); have n1_ := Aside0.mk (below_step (by repeat (first | (with_reducible first | exact HB.out | apply below_alloc | apply pw_below_drewN | apply below_drew1) | exact HB.out)) hb); clear HB; have HO105 := n0_; have HB := n1_; clear n0_ n1_; clear hb ho11; obtain ⟨Ao12, co12, eo12⟩ := Kd.R_slice HO105.out; subst eo12))
                try simp only [Act.put, List.setIfInBounds_toArray, List.set_cons_zero, List.set_cons_succ]
                go_loopg [31] kj5 (fun kq v31 w' => ∃ (x5_3 : List Int) (x31_3 : Int), v31 = .int .i64 x31_3 ∧ Aside0 (laws_FnWalshBack.l0 kq l0 l1 x5_3 (y103.length : Int) x31_3 = some r) ∧ Aside0 (kq ≤ kj5) ∧ Aside0 (Kd.R (Kd.int .u8) 5 w' w.heap.size (fun _ => True) (.slice Ao12 y103.length co12) x5_3) ∧ Aside0 (Below w.heap.size w w'))
                case atStart => exact ⟨(y103), (0), (by first | rfl | (simp; done) | (simp [*]; done)), H', ⟨Nat.le_refl _⟩, ⟨by (with_reducible repeat (first | apply Kd.R_alloc | apply Kd.R_drewN | apply Kd.R_drew)); exact HO105.out⟩, ⟨by repeat (first | (with_reducible first | exact HB.out | apply below_alloc | apply pw_below_drewN | apply below_drew1) | exact HB.out)⟩⟩
                case round =>
                  clear H'
                  try clear c1
                  try clear p2
                  try clear c3
                  try clear c4
                  try clear c4b0
                  try clear c4b1
                  try clear c5
                  try clear c7
                  try clear c7b0
                  try clear c7b1
                  try clear c8
                  try clear c9
                  try clear c9b0
                  try clear c9b1
                  try clear p2
                  obtain ⟨x5_3, x31_3, rfl, HA, HK3, HO_5, HB⟩ := hrel
                  have hl5_3 := (Kd.R_reads' HO_5.out).1
                  rw [hl5_3] at HO_5
                  (try simp only [hl5_3])
                  cases gk with
                  | zero => exact absurd HA.out (by simp [laws_FnWalshBack.l0])
                  | succ k3 =>
                    have H := HA.out
                    clear HA
                    simp only [laws_FnWalshBack.l0] at H
                    by_cases c13 : x31_3 < (y103.length : Int)
                    · rw [if_pos c13] at H
                      have c13b0 : decide (x31_3 < (y103.length : Int)) = true := decide_eq_true c13
                      have c13b0h := c13b0
                      rw [hl5_3] at c13b0h
                      clear c13
                      by_cases c14 : 0 ≤ x31_3
                      · rw [if_pos c14] at H
                        have c14b0 : decide (0 ≤ x31_3) = true := decide_eq_true c14
                        clear c14
                        by_cases c15 : x31_3 < (l0.length : Int)
                        · rw [if_pos c15] at H
                          have c15b0 : decide (x31_3 < (l0.length : Int)) = true := decide_eq_true c15
                          clear c15
                          by_cases c16 : x31_3 < (l1.length : Int)
                          · rw [if_pos c16] at H
                            have c16b0 : decide (x31_3 < (l1.length : Int)) = true := decide_eq_true c16
                            clear c16
                            by_cases c17 : x31_3 < (x5_3.length : Int)
                            · rw [if_pos c17] at H
                              have c17b0 : decide (x31_3 < (x5_3.length : Int)) = true := decide_eq_true c17
                              clear c17
                              obtain ⟨y108, hy108⟩ : ∃ y_ : List Int, y_ = (x5_3.set (x31_3 : Int).toNat ((Int.tmod (wrap64 ((wrap64 (rd l0 x31_3)) + (wrap64 (rd l1 x31_3)))) 255) % 256)) := ⟨_, rfl⟩
                              replace H : (laws_FnWalshBack.l0 k3 l0 l1 y108 (y103.length : Int) (wrap64 (x31_3 + 1))) = some r := by first | (rw [hy108]; with_reducible exact H) | (have H2_ := (Option.bind_some _ _).symm.trans H; rw [hy108]; with_reducible exact H2_) | (have H2_ := (Option.bind_some _ _).symm.trans H; with_reducible exact H2_) | with_reducible exact H | (rw [hy108]; exact H) | exact H
                              have Ny108 := Aside0.mk hy108
                              clear hy108
                              have H' := Aside0.mk H
                              clear H
                              try go_wp2
                              (try (rw [drewN_self wr]; generalize hq_ : World.drewN wr _ = wr; have n0_ : Aside0 (Kd.R (Kd.int .u8) 5 wr w.heap.size (fun _ => True) (.slice Ao12 x5_3.length co12) x5_3) := ⟨by rw [← hq_]; exact (by (with_reducible repeat (first | apply Kd.R_alloc | apply Kd.R_drewN | apply Kd.R_drew)); exact HO_5.out)⟩; have n1_ : Aside0 (Below w.heap.size w wr) := ⟨by rw [← hq_]; exact (by repeat (first | (with_reducible first | exact HB.out | apply below_alloc | apply pw_below_drewN | apply below_drew1) | exact HB.out))⟩; clear HO_5 HB hq_; have HO_5 := n0_; have HB := n1_; clear n0_ n1_))
                              have n0_ := Aside0.mk (Kd.R_drew HO_5.out)
                              have n1_ := Aside0.mk (below_drew1 HB.out)
                              clear HO_5
                              clear HB
                              have HO_5 := n0_
                              have HB := n1_
                              clear n0_ n1_
                              have p106 : 0 ≤ (x31_3 : Int) := of_decide_eq_true (by first | (with_reducible assumption) | assumption)
                              have q106 : x31_3 < (l0.length : Int) := of_decide_eq_true (by first | (with_reducible assumption) | assumption)
                              obtain ⟨ad106, e106, hx106_0⟩ := Kd.at_int HR0.out x31_3 p106 q106
                              have hw106_0 := hx106_0
                              cases e106
                              replace hx106_0 := (HB.out.cell (World.block_lt_of_cell? w _ hx106_0)).trans hx106_0
                              replace p106 := eq_true p106
                              replace q106 := eq_true q106
                              have p107 : 0 ≤ (x31_3 : Int) := of_decide_eq_true (by first | (with_reducible assumption) | assumption)
                              have q107 : x31_3 < (l1.length : Int) := of_decide_eq_true (by first | (with_reducible assumption) | assumption)
                              obtain ⟨ad107, e107, hx107_0⟩ := Kd.at_int HR1.out x31_3 p107 q107
                              have hw107_0 := hx107_0
                              cases e107
                              replace hx107_0 := (HB.out.cell (World.block_lt_of_cell? w _ hx107_0)).trans hx107_0
                              replace p107 := eq_true p107
                              replace q107 := eq_true q107
                              have p18 : 0 ≤ (x31_3 : Int) := of_decide_eq_true (by first | (with_reducible assumption) | assumption)
                              have q18 : (x31_3 : Int) < ((x5_3.length : Int) : Int) := of_decide_eq_true (by first | (with_reducible assumption) | assumption)
                              obtain ⟨go18, co18, eo18, gb18, gl18, cl18, HG18⟩ := Kd.R_form HO_5.out (by omega)
                              (first | cases eo18 | (injection eo18 with ea_ en_ ec_; (first | subst ea_ | (injection ea_ with ea_; subst ea_)); subst ec_; clear en_))
                              have GB18 := Aside0.mk gb18
                              have GG18 := Aside0.mk HG18
                              clear gb18 gl18 HG18
                              obtain ⟨hx18_0, hf18_0⟩ := Kd.R_celln 0 HO_5.out (x31_3 : Int) p18 q18
                              replace p18 := eq_true p18
                              replace q18 := eq_true q18
                              have HP20 := Kd.R_putn HO_5.out (x31_3 : Int) ((Int.tmod (wrap64 ((wrap64 (rd l0 x31_3)) + (wrap64 (rd l1 x31_3)))) 255) % 256)
                              rw [← Ny108.out] at HP20
                              have HQ20 := Aside0.mk HP20
                              clear HP20
                              refine start_ (n := 17) (S := fun w' => w'.cell? (ad106.add (x31_3).toNat) = some (.int .u8 (rd l0 x31_3)) ∧ w'.cell? (ad107.add (x31_3).toNat) = some (.int .u8 (rd l1 x31_3))) (ds := [16]) #[false, false, false, false, false, false, false, false, false, false, false, false, false, false, false, false, false] (by kernel_rfl) rfl rfl ⟨((HB.out.cell (World.block_lt_of_cell? w _ hw106_0)).trans hw106_0), ((HB.out.cell (World.block_lt_of_cell? w _ hw107_0)).trans hw107_0)⟩ (fun hHeld => ?_); refine with_tabW laws_FnWalshBack.tab9 laws_FnWalshBack.bits9 (fun HT_ HW_ => ?_)
                              generalize wr.drew = w19 at HO_5 HB GG18 HQ20 hf18_0 hx106_0 hx107_0 hx18_0 hHeld ⊢
                              refine pure_ (i := 0) (N := some 34) (v := ?_) (a' := ?_) #[true, false, false, false, false, false, false, false, false, false, false, false, false, false, false, false, false] rfl rfl (any_of HT_.out (by kernel_rfl)) (fun _ _ _ h => h) (Or.inl ⟨by rfl, ?_⟩) ?_ ?_
                              rotate_left
                              · intro w'
                                go_simp
                                with_reducible rfl
                              rotate_left
                              · simp only [Act.put, List.setIfInBounds_toArray, List.set_cons_zero, List.set_cons_succ, i64_w, i32_w]
                                rfl
                              refine pure_ (i := 1) (N := some 35) (v := ?_) (a' := ?_) #[true, true, false, false, false, false, false, false, false, false, false, false, false, false, false, false, false] rfl rfl (any_of HT_.out (by kernel_rfl)) (fun _ _ _ h => h) (Or.inl ⟨by rfl, ?_⟩) ?_ ?_
                              rotate_left
                              · intro w'
                                go_simp
                                with_reducible rfl
                              rotate_left
                              · simp only [Act.put, List.setIfInBounds_toArray, List.set_cons_zero, List.set_cons_succ, i64_w, i32_w]
                                rfl
                              refine pure_ (i := 2) (N := some 36) (v := ?_) (a' := ?_) #[true, true, true, false, false, false, false, false, false, false, false, false, false, false, false, false, false] rfl rfl (any_of HT_.out (by kernel_rfl)) (fun _ _ _ h => h) (Or.inl ⟨by rfl, ?_⟩) ?_ ?_
                              rotate_left
                              · intro w'
                                go_simp
                                with_reducible rfl
                              rotate_left
                              · simp only [Act.put, List.setIfInBounds_toArray, List.set_cons_zero, List.set_cons_succ, i64_w, i32_w]
                                rfl
                              refine pure_ (i := 3) (N := some 37) (v := ?_) (a' := ?_) #[true, true, true, true, false, false, false, false, false, false, false, false, false, false, false, false, false] rfl rfl (any_of HT_.out (by kernel_rfl)) (fun _ _ _ h => h) (Or.inl ⟨by rfl, ?_⟩) ?_ ?_
                              rotate_left
                              · intro w'
                                go_simp
                                with_reducible rfl
                              rotate_left
                              · simp only [Act.put, List.setIfInBounds_toArray, List.set_cons_zero, List.set_cons_succ, i64_w, i32_w]
                                rfl
                              refine pure_ (i := 4) (N := some 38) (v := ?_) (a' := ?_) #[true, true, true, true, true, false, false, false, false, false, false, false, false, false, false, false, false] rfl rfl (any_of HT_.out (by kernel_rfl)) (fun _ _ _ h => h) (Or.inl ⟨by rfl, ?_⟩) ?_ ?_
                              rotate_left
                              · intro w'
                                go_simp
                                with_reducible rfl
                              rotate_left
                              · simp only [Act.put, List.setIfInBounds_toArray, List.set_cons_zero, List.set_cons_succ, i64_w, i32_w]
                                rfl
                              refine pure_ (i := 7) (N := some 41) (v := ?_) (a' := ?_) #[true, true, true, true, true, false, false, true, false, false, false, false, false, false, false, false, false] rfl rfl (any_of HT_.out (by kernel_rfl)) (fun _ _ _ h => h) (Or.inl ⟨by rfl, ?_⟩) ?_ ?_
                              rotate_left
                              · intro w'
                                go_simp
                                with_reducible rfl
                              rotate_left
                              · simp only [Act.put, List.setIfInBounds_toArray, List.set_cons_zero, List.set_cons_succ, i64_w, i32_w]
                                rfl
                              refine pure_ (i := 8) (N := some 42) (v := ?_) (a' := ?_) #[true, true, true, true, true, false, false, true, true, false, false, false, false, false, false, false, false] rfl rfl (any_of HT_.out (by kernel_rfl)) (fun _ _ _ h => h) (Or.inl ⟨by rfl, ?_⟩) ?_ ?_
                              rotate_left
                              · intro w'
                                go_simp
                                with_reducible rfl
                              rotate_left
                              · simp only [Act.put, List.setIfInBounds_toArray, List.set_cons_zero, List.set_cons_succ, i64_w, i32_w]
                                rfl
                              refine pure_ (i := 9) (N := some 43) (v := ?_) (a' := ?_) #[true, true, true, true, true, false, false, true, true, true, false, false, false, false, false, false, false] rfl rfl (any_of HT_.out (by kernel_rfl)) (fun _ _ _ h => h) (Or.inl ⟨by rfl, ?_⟩) ?_ ?_
                              rotate_left
                              · intro w'
                                go_simp
                                with_reducible rfl
                              rotate_left
                              · simp only [Act.put, List.setIfInBounds_toArray, List.set_cons_zero, List.set_cons_succ, i64_w, i32_w]
                                rfl
                              refine take_ (i := 5) (N := some 39) (v := ?_) (a' := ?_) #[true, true, true, true, true, true, false, true, true, true, false, false, false, false, false, false, false] rfl rfl (take_ofW HT_.out HW_.out (by kernel_rfl)) (fun _ _ _ h => h) (Or.inl ⟨by rfl, ?_⟩) hHeld ?_ ?_
                              rotate_left
                              · rintro w' ⟨s0, s1⟩
                                go_simp
                                with_reducible rfl
                              rotate_left
                              · simp only [Act.put, List.setIfInBounds_toArray, List.set_cons_zero, List.set_cons_succ, i64_w, i32_w]
                                rfl
                              refine pure_ (i := 6) (N := some 40) (v := ?_) (a' := ?_) #[true, true, true, true, true, true, true, true, true, true, false, false, false, false, false, false, false] rfl rfl (any_of HT_.out (by kernel_rfl)) (fun _ _ _ h => h) (Or.inl ⟨by rfl, ?_⟩) ?_ ?_
                              rotate_left
                              · intro w'
                                go_simp
                                with_reducible rfl
                              rotate_left
                              · simp only [Act.put, List.setIfInBounds_toArray, List.set_cons_zero, List.set_cons_succ, i64_w, i32_w]
                                rfl
                              refine take_ (i := 10) (N := some 44) (v := ?_) (a' := ?_) #[true, true, true, true, true, true, true, true, true, true, true, false, false, false, false, false, false] rfl rfl (take_ofW HT_.out HW_.out (by kernel_rfl)) (fun _ _ _ h => h) (Or.inl ⟨by rfl, ?_⟩) hHeld ?_ ?_
                              rotate_left
                              · rintro w' ⟨s0, s1⟩
                                go_simp
                                with_reducible rfl
                              rotate_left
                              · simp only [Act.put, List.setIfInBounds_toArray, List.set_cons_zero, List.set_cons_succ, i64_w, i32_w]
                                rfl
                              refine pure_ (i := 11) (N := some 45) (v := ?_) (a' := ?_) #[true, true, true, true, true, true, true, true, true, true, true, true, false, false, false, false, false] rfl rfl (any_of HT_.out (by kernel_rfl)) (fun _ _ _ h => h) (Or.inl ⟨by rfl, ?_⟩) ?_ ?_
                              rotate_left
                              · intro w'
                                go_simp
                                with_reducible rfl
                              rotate_left
                              · simp only [Act.put, List.setIfInBounds_toArray, List.set_cons_zero, List.set_cons_succ, i64_w, i32_w]
                                rfl
                              refine pure_ (i := 12) (N := some 46) (v := ?_) (a' := ?_) #[true, true, true, true, true, true, true, true, true, true, true, true, true, false, false, false, false] rfl rfl (any_of HT_.out (by kernel_rfl)) (fun _ _ _ h => h) (Or.inl ⟨by rfl, ?_⟩) ?_ ?_
                              rotate_left
                              · intro w'
                                go_simp
                                with_reducible rfl
                              rotate_left
                              · simp only [Act.put, List.setIfInBounds_toArray, List.set_cons_zero, List.set_cons_succ, i64_w, i32_w]
                                rfl
                              refine pure_ (i := 13) (N := some 47) (v := ?_) (a' := ?_) #[true, true, true, true, true, true, true, true, true, true, true, true, true, true, false, false, false] rfl rfl (any_of HT_.out (by kernel_rfl)) (fun _ _ _ h => h) (Or.inl ⟨by rfl, ?_⟩) ?_ ?_
                              rotate_left
                              · intro w'
                                go_simp
                                with_reducible rfl
                              rotate_left
                              · simp only [Act.put, List.setIfInBounds_toArray, List.set_cons_zero, List.set_cons_succ, i64_w, i32_w]
                                rfl
                              refine pure_ (i := 14) (N := some 48) (v := ?_) (a' := ?_) #[true, true, true, true, true, true, true, true, true, true, true, true, true, true, true, false, false] rfl rfl (any_of HT_.out (by kernel_rfl)) (fun _ _ _ h => h) (Or.inl ⟨by rfl, ?_⟩) ?_ ?_
                              rotate_left
                              · intro w'
                                go_simp
                                with_reducible rfl
                              rotate_left
                              · simp only [Act.put, List.setIfInBounds_toArray, List.set_cons_zero, List.set_cons_succ, i64_w, i32_w]
                                rfl
                              refine pure_ (i := 15) (N := some 49) (v := ?_) (a' := ?_) #[true, true, true, true, true, true, true, true, true, true, true, true, true, true, true, true, false] rfl rfl (any_of HT_.out (by kernel_rfl)) (fun _ _ _ h => h) (Or.inl ⟨by rfl, ?_⟩) ?_ ?_
                              rotate_left
                              · intro w'
                                go_simp
                                with_reducible rfl
                              rotate_left
                              · simp only [Act.put, List.setIfInBounds_toArray, List.set_cons_zero, List.set_cons_succ, i64_w, i32_w]
                                rfl
                              refine last_ (i := 16) (N := none) #[true, true, true, true, true, true, true, true, true, true, true, true, true, true, true, true, true] rfl rfl (one_of HT_.out (by kernel_rfl)) (by decide) (fun K hK => ?_)
                              refine skip_ (w1 := ?_) (by rfl) rfl ?_ ?_
                              rotate_left
                              · go_simp
                                rfl
                              refine hK.out _ _ ?_
                              clear hK K
                              refine done_ (done_of HT_.out (by kernel_rfl)) ?_
                              try go_wp2
                              (try simp only [← hl5_3])
                              go_roundg k3
                              case measure => have := HJ2.out; have := HJ5.out; have := HK3.out; omega
                              case rel => exact ⟨(y108), (wrap64 (x31_3 + 1)), (by first | rfl | (simp; done) | (simp [*]; done)), H', ⟨by have := HJ2.out; have := HJ5.out; have := HK3.out; omega⟩, ⟨by (try simp only [hl5_3]); (with_reducible repeat (first | apply Kd.R_alloc | apply Kd.R_drewN | apply Kd.R_drew)); exact HQ20.out⟩, ⟨by repeat (first | (with_reducible first | exact HB.out | apply below_alloc | apply pw_below_drewN | apply below_drew1 | refine below_set ?_ GB18.out) | exact HB.out)⟩⟩
                            · rw [if_neg c17] at H
                              exact absurd H (by simp)
                          · rw [if_neg c16] at H
                            exact absurd H (by simp)
                        · rw [if_neg c15] at H
                          exact absurd H (by simp)
                      · rw [if_neg c14] at H
                        exact absurd H (by simp)
                    · rw [if_neg c13] at H
                      have c13b0 : decide (x31_3 < (y103.length : Int)) = false := decide_eq_false c13
                      have c13b0h := c13b0
                      rw [hl5_3] at c13b0h
                      clear c13
                      replace H := Option.bind_eq_some_iff.mp H
                      obtain ⟨t109, A210, H⟩ := H
                      replace H : ((impl_Walsh.f l1 256).bind fun t112 => ((impl_Walsh.f x5_3 256).bind fun t115 => ((impl_Walsh.f t109 256).bind fun t118 => (if (t109.length : Int) = 256 then (if (t112.length : Int) = 256 then (if (t115.length : Int) = 256 then (laws_FnWalshBack.j3 k3 l0 x5_3 t109 t112 t115 t118 ((t118.length : Int) != 256)) else (laws_FnWalshBack.j3 k3 l0 x5_3 t109 t112 t115 t118 true)) else (laws_FnWalshBack.j3 k3 l0 x5_3 t109 t112 t115 t118 true)) else (laws_FnWalshBack.j3 k3 l0 x5_3 t109 t112 t115 t118 true))))) = some r := H
                      have A21 := Aside0.mk A210
                      clear A210
                      replace H := Option.bind_eq_some_iff.mp H
                      obtain ⟨t112, A220, H⟩ := H
                      replace H : ((impl_Walsh.f x5_3 256).bind fun t115 => ((impl_Walsh.f t109 256).bind fun t118 => (if (t109.length : Int) = 256 then (if (t112.length : Int) = 256 then (if (t115.length : Int) = 256 then (laws_FnWalshBack.j3 k3 l0 x5_3 t109 t112 t115 t118 ((t118.length : Int) != 256)) else (laws_FnWalshBack.j3 k3 l0 x5_3 t109 t112 t115 t118 true)) else (laws_FnWalshBack.j3 k3 l0 x5_3 t109 t112 t115 t118 true)) else (laws_FnWalshBack.j3 k3 l0 x5_3 t109 t112 t115 t118 true)))) = some r := H
                      have A22 := Aside0.mk A220
                      clear A220
                      replace H := Option.bind_eq_some_iff.mp H
                      obtain ⟨t115, A230, H⟩ := H
                      replace H : ((impl_Walsh.f t109 256).bind fun t118 => (if (t109.length : Int) = 256 then (if (t112.length : Int) = 256 then (if (t115.length : Int) = 256 then (laws_FnWalshBack.j3 k3 l0 x5_3 t109 t112 t115 t118 ((t118.length : Int) != 256)) else (laws_FnWalshBack.j3 k3 l0 x5_3 t109 t112 t115 t118 true)) else (laws_FnWalshBack.j3 k3 l0 x5_3 t109 t112 t115 t118 true)) else (laws_FnWalshBack.j3 k3 l0 x5_3 t109 t112 t115 t118 true))) = some r := H
                      have A23 := Aside0.mk A230
                      clear A230
                      replace H := Option.bind_eq_some_iff.mp H
                      obtain ⟨t118, A240, H⟩ := H
                      replace H : (if (t109.length : Int) = 256 then (if (t112.length : Int) = 256 then (if (t115.length : Int) = 256 then (laws_FnWalshBack.j3 k3 l0 x5_3 t109 t112 t115 t118 ((t118.length : Int) != 256)) else (laws_FnWalshBack.j3 k3 l0 x5_3 t109 t112 t115 t118 true)) else (laws_FnWalshBack.j3 k3 l0 x5_3 t109 t112 t115 t118 true)) else (laws_FnWalshBack.j3 k3 l0 x5_3 t109 t112 t115 t118 true)) = some r := H
                      have A24 := Aside0.mk A240
                      clear A240
                      have HC25 := Aside0.mk H
                      clear H
                      go_upto_region 13 with (first | ((with_reducible refine gate_callee (f := 4) rfl ?_); refine goesL_ (some 52) rfl rfl Try.func4 (by kernel_rfl) rfl #[.slice A0 l0.length c0, .int .i64 256] rfl (by (try simp only [List.map_toArray, List.map_cons, List.map_nil]); first | done | rfl | (simp only [List.length_drop, List.length_take]; rfl)) ?_; (with_reducible refine (impl_Walsh.calls _ _ l0 256 t109 _ ?side1 ?side2 A21.out).mono ?_); (case side1 => repeat (first | exact (Kd.C_below HR0.out HB.out) | (with_reducible refine Kd.C_alloc ?_ _) | (with_reducible refine Kd.C_drewN ?_ _) | (with_reducible refine Kd.C_drew ?_))); (case side2 => exact HC0.out); rintro e w26 ⟨v110, rfl, ho0, hb⟩; refine ⟨_, rfl, ?_⟩; have n0_ := Aside0.mk (Kd.R_elder' (by (with_reducible repeat (first | apply Kd.R_alloc | apply Kd.R_drewN | apply Kd.R_drew)); exact HO_5.out) (Kd.R_base ho0) hb); have n1_ := Aside0.mk (Kd.R_lower (Kd.R_new' ho0 (Kd.R_lt (by (with_reducible repeat (first | apply Kd.R_alloc | apply Kd.R_drewN | apply Kd.R_drew)); exact HO_5.out))) (below_size (by repeat (first | (with_reducible first | exact HB.out | apply below_alloc | apply pw_below_drewN | apply below_drew1) | exact HB.out)))); have n2_ := Aside0.mk (below_step (by repeat (first | (with_reducible first | exact HB.out | apply below_alloc | apply pw_below_drewN | apply below_drew1) | exact HB.out)) hb); clear HO_5; clear HB; have HO_5 := n0_; have HO111 := n1_; have HB := n2_; clear n0_ n1_ n2_; (try clear hb); (try clear hb2); (try clear hk); (try clear hi); (try clear ho0)) | ((with_reducible refine gate_callee (f := 4) rfl ?_); refine goesL_ (some 54) rfl rfl Try.func4 (by kernel_rfl) rfl #[.slice A1 l1.length c1, .int .i64 256] rfl (by (try simp only [List.map_toArray, List.map_cons, List.map_nil]); first | done | rfl | (simp only [List.length_drop, List.length_take]; rfl)) ?_; (with_reducible refine (impl_Walsh.calls _ _ l1 256 t112 _ ?side1 ?side2 A22.out).mono ?_); (case side1 => repeat (first | exact (Kd.C_below HR1.out HB.out) | (with_reducible refine Kd.C_alloc ?_ _) | (with_reducible refine Kd.C_drewN ?_ _) | (with_reducible refine Kd.C_drew ?_))); (case side2 => exact HC1.out); rintro e w27 ⟨v113, rfl, ho0, hb⟩; refine ⟨_, rfl, ?_⟩; have n0_ := Aside0.mk (Kd.R_elder' (by (with_reducible repeat (first | apply Kd.R_alloc | apply Kd.R_drewN | apply Kd.R_drew)); exact HO_5.out) (Kd.R_base ho0) hb); have n1_ := Aside0.mk (Kd.R_elder' (by (with_reducible repeat (first | apply Kd.R_alloc | apply Kd.R_drewN | apply Kd.R_drew)); exact HO111.out) (Kd.R_base ho0) hb); have n2_ := Aside0.mk (Kd.R_lower (Kd.R_new' (Kd.R_new' ho0 (Kd.R_lt (by (with_reducible repeat (first | apply Kd.R_alloc | apply Kd.R_drewN | apply Kd.R_drew)); exact HO_5.out))) (Kd.R_lt (by (with_reducible repeat (first | apply Kd.R_alloc | apply Kd.R_drewN | apply Kd.R_drew)); exact HO111.out))) (below_size (by repeat (first | (with_reducible first | exact HB.out | apply below_alloc | apply pw_below_drewN | apply below_drew1) | exact HB.out)))); have n3_ := Aside0.mk (below_step (by repeat (first | (with_reducible first | exact HB.out | apply below_alloc | apply pw_below_drewN | apply below_drew1) | exact HB.out)) hb); clear HO_5; clear HO111; clear HB; have HO_5 := n0_; have HO111 := n1_; have HO114 := n2_; have HB := n3_; clear n0_ n1_ n2_ n3_; (try clear hb); (try clear hb2); (try clear hk); (try clear hi); (try clear ho0)) | ((with_reducible refine gate_callee (f := 4) rfl ?_); refine goesL_ (some 56) rfl rfl Try.func4 (by kernel_rfl) rfl #[.slice Ao12 x5_3.length co12, .int .i64 256] rfl (by (try simp only [List.map_toArray, List.map_cons, List.map_nil]); first | done | rfl | (simp only [List.length_drop, List.length_take]; rfl)) ?_; (with_reducible refine (impl_Walsh.calls _ _ x5_3 256 t115 _ ?side1 ?side2 A23.out).mono ?_); (case side1 => repeat (first | exact (Kd.R_reads' HO_5.out).2.2 | (with_reducible refine Kd.C_alloc ?_ _) | (with_reducible refine Kd.C_drewN ?_ _) | (with_reducible refine Kd.C_drew ?_))); (case side2 => exact (Kd.R_reads' HO_5.out).2.1); rintro e w28 ⟨v116, rfl, ho0, hb⟩; refine ⟨_, rfl, ?_⟩; have n0_ := Aside0.mk (Kd.R_elder' (by (with_reducible repeat (first | apply Kd.R_alloc | apply Kd.R_drewN | apply Kd.R_drew)); exact HO_5.out) (Kd.R_base ho0) hb); have n1_ := Aside0.mk (Kd.R_elder' (by (with_reducible repeat (first | apply Kd.R_alloc | apply Kd.R_drewN | apply Kd.R_drew)); exact HO111.out) (Kd.R_base ho0) hb); have n2_ := Aside0.mk (Kd.R_elder' (by (with_reducible repeat (first | apply Kd.R_alloc | apply Kd.R_drewN | apply Kd.R_drew)); exact HO114.out) (Kd.R_base ho0) hb); have n3_ := Aside0.mk (Kd.R_lower (Kd.R_new' (Kd.R_new' (Kd.R_new' ho0 (Kd.R_lt (by (with_reducible repeat (first | apply Kd.R_alloc | apply Kd.R_drewN | apply Kd.R_drew)); exact HO_5.out))) (Kd.R_lt (by (with_reducible repeat (first | apply Kd.R_alloc | apply Kd.R_drewN | apply Kd.R_drew)); exact HO111.out))) (Kd.R_lt (by (with_reducible repeat (first | apply Kd.R_alloc | apply Kd.R_drewN | apply Kd.R_drew)); exact HO114.out))) (below_size (by repeat (first | (with_reducible first | exact HB.out | apply below_alloc | apply pw_below_drewN | apply below_drew1) | exact HB.out)))); have n4_ := Aside0.mk (below_step (by repeat (first | (with_reducible first | exact HB.out | apply below_alloc | apply pw_below_drewN | apply below_drew1) | exact HB.out)) hb); clear HO_5; clear HO111; clear HO114; clear HB; have HO_5 := n0_; have HO111 := n1_; have HO114 := n2_; have HO117 := n3_; have HB := n4_; clear n0_ n1_ n2_ n3_ n4_; (try clear hb); (try clear hb2); (try clear hk); (try clear hi); (try clear ho0); obtain ⟨Ao29, co29, eo29⟩ := Kd.R_slice HO111.out; subst eo29) | ((with_reducible refine gate_callee (f := 4) rfl ?_); refine goesL_ (some 58) rfl rfl Try.func4 (by kernel_rfl) rfl #[.slice Ao29 t109.length co29, .int .i64 256] rfl (by (try simp only [List.map_toArray, List.map_cons, List.map_nil]); first | done | rfl | (simp only [List.length_drop, List.length_take]; rfl)) ?_; (with_reducible refine (impl_Walsh.calls _ _ t109 256 t118 _ ?side1 ?side2 A24.out).mono ?_); (case side1 => repeat (first | exact (Kd.R_reads' HO111.out).2.2 | (with_reducible refine Kd.C_alloc ?_ _) | (with_reducible refine Kd.C_drewN ?_ _) | (with_reducible refine Kd.C_drew ?_))); (case side2 => exact (Kd.R_reads' HO111.out).2.1); rintro e w30 ⟨v119, rfl, ho0, hb⟩; refine ⟨_, rfl, ?_⟩; have n0_ := Aside0.mk (Kd.R_elder' (by (with_reducible repeat (first | apply Kd.R_alloc | apply Kd.R_drewN | apply Kd.R_drew)); exact HO_5.out) (Kd.R_base ho0) hb); have n1_ := Aside0.mk (Kd.R_elder' (by (with_reducible repeat (first | apply Kd.R_alloc | apply Kd.R_drewN | apply Kd.R_drew)); exact HO111.out) (Kd.R_base ho0) hb); have n2_ := Aside0.mk (Kd.R_elder' (by (with_reducible repeat (first | apply Kd.R_alloc | apply Kd.R_drewN | apply Kd.R_drew)); exact HO114.out) (Kd.R_base ho0) hb); have n3_ := Aside0.mk (Kd.R_elder' (by (with_reducible repeat (first | apply Kd.R_alloc | apply Kd.R_drewN | apply Kd.R_drew)); exact HO117.out) (Kd.R_base ho0) hb); have n4_ := Aside0.mk (Kd.R_lower (Kd.R_new' (Kd.R_new' (Kd.R_new' (Kd.R_new' ho0 (Kd.R_lt (by (with_reducible repeat (first | apply Kd.R_alloc | apply Kd.R_drewN | apply Kd.R_drew)); exact HO_5.out))) (Kd.R_lt (by (with_reducible repeat (first | apply Kd.R_alloc | apply Kd.R_drewN | apply Kd.R_drew)); exact HO111.out))) (Kd.R_lt (by (with_reducible repeat (first | apply Kd.R_alloc | apply Kd.R_drewN | apply Kd.R_drew)); exact HO114.out))) (Kd.R_lt (by (with_reducible repeat (first | apply Kd.R_alloc | apply Kd.R_drewN | apply Kd.R_drew)); exact HO117.out))) (below_size (by repeat (first | (with_reducible first | exact HB.out | apply below_alloc | apply pw_below_drewN | apply below_drew1) | exact HB.out)))); have n5_ := Aside0.mk (below_step (by repeat (first | (with_reducible first | exact HB.out | apply below_alloc | apply pw_below_drewN | apply below_drew1) | exact HB.out)) hb); clear HO_5; clear HO111; clear HO114; clear HO117; clear HB; have HO_5 := n0_; have HO111 := n1_; have HO114 := n2_; have HO117 := n3_; have HO120 := n4_; have HB := n5_; clear n0_ n1_ n2_ n3_ n4_ n5_; (try clear hb); (try clear hb2); (try clear hk); (try clear hi); (try clear ho0)))
                      (try simp only [Act.put, List.setIfInBounds_toArray, List.set_cons_zero, List.set_cons_succ])
                      go_cut [76] (fun v76 wc => ∃ (kq : Nat) (x76_24 : Bool), v76 = .bool x76_24 ∧ Aside0 (laws_FnWalshBack.j3 kq l0 x5_3 t109 t112 t115 t118 x76_24 = some r) ∧ Aside0 (kq ≤ k3) ∧ Aside0 (Kd.R (Kd.int .u8) 5 wc w.heap.size (fun k_ => some k_ ≠ ((.slice Ao29 t109.length co29) : Value).ownBlock ∧ some k_ ≠ (v113 : Value).ownBlock ∧ some k_ ≠ (v116 : Value).ownBlock ∧ some k_ ≠ (v119 : Value).ownBlock) (.slice Ao12 x5_3.length co12) x5_3) ∧ Aside0 (Kd.R (Kd.int .u8) 26 wc w.heap.size (fun k_ => some k_ ≠ ((.slice Ao12 x5_3.length co12) : Value).ownBlock ∧ some k_ ≠ (v113 : Value).ownBlock ∧ some k_ ≠ (v116 : Value).ownBlock ∧ some k_ ≠ (v119 : Value).ownBlock) (.slice Ao29 t109.length co29) t109) ∧ Aside0 (Kd.R (Kd.int .u8) 26 wc w.heap.size (fun k_ => some k_ ≠ ((.slice Ao12 x5_3.length co12) : Value).ownBlock ∧ some k_ ≠ ((.slice Ao29 t109.length co29) : Value).ownBlock ∧ some k_ ≠ (v116 : Value).ownBlock ∧ some k_ ≠ (v119 : Value).ownBlock) v113 t112) ∧ Aside0 (Kd.R (Kd.int .u8) 26 wc w.heap.size (fun k_ => some k_ ≠ ((.slice Ao12 x5_3.length co12) : Value).ownBlock ∧ some k_ ≠ ((.slice Ao29 t109.length co29) : Value).ownBlock ∧ some k_ ≠ (v113 : Value).ownBlock ∧ some k_ ≠ (v119 : Value).ownBlock) v116 t115) ∧ Aside0 (Kd.R (Kd.int .u8) 26 wc w.heap.size (fun k_ => some k_ ≠ ((.slice Ao12 x5_3.length co12) : Value).ownBlock ∧ some k_ ≠ ((.slice Ao29 t109.length co29) : Value).ownBlock ∧ some k_ ≠ (v113 : Value).ownBlock ∧ some k_ ≠ (v116 : Value).ownBlock) v119 t118) ∧ Aside0 (Below w.heap.size w wc))
                      case first =>
                        have H := HC25.out
                        clear HC25
                        by_cases c31 : (t109.length : Int) = 256
                        · rw [if_pos c31] at H
                          have c31b0 : ((t109.length : Int) == 256) = true := beq_iff_eq.mpr c31
                          have c31b1 : ((t109.length : Int) != 256) = false := bne_eq_false_iff_eq.mpr c31
                          clear c31
                          (first | rw [c31b0] | (simp only [i64_w, i32_w]; rw [c31b0]) | skip)
                          by_cases c32 : (t112.length : Int) = 256
                          · rw [if_pos c32] at H
                            have c32b0 : ((t112.length : Int) == 256) = true := beq_iff_eq.mpr c32
                            have c32b1 : ((t112.length : Int) != 256) = false := bne_eq_false_iff_eq.mpr c32
                            clear c32
                            by_cases c33 : (t115.length : Int) = 256
                            · rw [if_pos c33] at H
                              have c33b0 : ((t115.length : Int) == 256) = true := beq_iff_eq.mpr c33
                              have c33b1 : ((t115.length : Int) != 256) = false := bne_eq_false_iff_eq.mpr c33
                              clear c33
                              have H' := Aside0.mk H
                              clear H
                              obtain ⟨Ao34, co34, eo34⟩ := Kd.R_slice HO114.out
                              subst eo34
                              obtain ⟨Ao35, co35, eo35⟩ := Kd.R_slice HO117.out
                              subst eo35
                              obtain ⟨Ao36, co36, eo36⟩ := Kd.R_slice HO120.out
                              subst eo36
                              go_wp2
                              go_meet
                              case rel => exact ⟨_, (((t118.length : Int) != 256)), (by first | rfl | (simp; done) | (simp [*]; done)), H', ⟨by have := HJ2.out; have := HJ5.out; have := HK3.out; first | omega | exact Nat.le_refl _⟩, ⟨by (try simp only [hl5_3]); (with_reducible repeat (first | apply Kd.R_alloc | apply Kd.R_drewN | apply Kd.R_drew)); exact Kd.R_mono HO_5.out (fun _ hk => ⟨hk.1.1.1.2, ⟨hk.1.1.2, ⟨hk.1.2, hk.2⟩⟩⟩)⟩, ⟨by (try simp only [hl5_3]); (with_reducible repeat (first | apply Kd.R_alloc | apply Kd.R_drewN | apply Kd.R_drew)); exact Kd.R_mono HO111.out (fun _ hk => ⟨hk.1.1.1.2, ⟨hk.1.1.2, ⟨hk.1.2, hk.2⟩⟩⟩)⟩, ⟨by (try simp only [hl5_3]); (with_reducible repeat (first | apply Kd.R_alloc | apply Kd.R_drewN | apply Kd.R_drew)); exact Kd.R_mono HO114.out (fun _ hk => ⟨hk.1.1.1.2, ⟨hk.1.1.2, ⟨hk.1.2, hk.2⟩⟩⟩)⟩, ⟨by (try simp only [hl5_3]); (with_reducible repeat (first | apply Kd.R_alloc | apply Kd.R_drewN | apply Kd.R_drew)); exact Kd.R_mono HO117.out (fun _ hk => ⟨hk.1.1.1.2, ⟨hk.1.1.2, ⟨hk.1.2, hk.2⟩⟩⟩)⟩, ⟨by (try simp only [hl5_3]); (with_reducible repeat (first | apply Kd.R_alloc | apply Kd.R_drewN | apply Kd.R_drew)); exact Kd.R_mono HO120.out (fun _ hk => ⟨hk.1.1.1.2, ⟨hk.1.1.2, ⟨hk.1.2, hk.2⟩⟩⟩)⟩, ⟨by repeat (first | (with_reducible first | exact HB.out | apply below_alloc | apply pw_below_drewN | apply below_drew1) | exact HB.out)⟩⟩
                            · rw [if_neg c33] at H
                              have c33b0 : ((t115.length : Int) == 256) = false := beq_eq_false_iff_ne.mpr c33
                              have c33b1 : ((t115.length : Int) != 256) = true := bne_iff_ne.mpr c33
                              have H' := Aside0.mk H
                              clear H
                              obtain ⟨Ao37, co37, eo37⟩ := Kd.R_slice HO114.out
                              subst eo37
                              obtain ⟨Ao38, co38, eo38⟩ := Kd.R_slice HO117.out
                              subst eo38
                              go_wp2
                              go_meet
                              case rel => exact ⟨_, (true), (by first | rfl | (simp; done) | (simp [*]; done)), H', ⟨by have := HJ2.out; have := HJ5.out; have := HK3.out; first | omega | exact Nat.le_refl _⟩, ⟨by (try simp only [hl5_3]); (with_reducible repeat (first | apply Kd.R_alloc | apply Kd.R_drewN | apply Kd.R_drew)); exact Kd.R_mono HO_5.out (fun _ hk => ⟨hk.1.1.1.2, ⟨hk.1.1.2, ⟨hk.1.2, hk.2⟩⟩⟩)⟩, ⟨by (try simp only [hl5_3]); (with_reducible repeat (first | apply Kd.R_alloc | apply Kd.R_drewN | apply Kd.R_drew)); exact Kd.R_mono HO111.out (fun _ hk => ⟨hk.1.1.1.2, ⟨hk.1.1.2, ⟨hk.1.2, hk.2⟩⟩⟩)⟩, ⟨by (try simp only [hl5_3]); (with_reducible repeat (first | apply Kd.R_alloc | apply Kd.R_drewN | apply Kd.R_drew)); exact Kd.R_mono HO114.out (fun _ hk => ⟨hk.1.1.1.2, ⟨hk.1.1.2, ⟨hk.1.2, hk.2⟩⟩⟩)⟩, ⟨by (try simp only [hl5_3]); (with_reducible repeat (first | apply Kd.R_alloc | apply Kd.R_drewN | apply Kd.R_drew)); exact Kd.R_mono HO117.out (fun _ hk => ⟨hk.1.1.1.2, ⟨hk.1.1.2, ⟨hk.1.2, hk.2⟩⟩⟩)⟩, ⟨by (try simp only [hl5_3]); (with_reducible repeat (first | apply Kd.R_alloc | apply Kd.R_drewN | apply Kd.R_drew)); exact Kd.R_mono HO120.out (fun _ hk => ⟨hk.1.1.1.2, ⟨hk.1.1.2, ⟨hk.1.2, hk.2⟩⟩⟩)⟩, ⟨by repeat (first | (with_reducible first | exact HB.out | apply below_alloc | apply pw_below_drewN | apply below_drew1) | exact HB.out)⟩⟩
                          · rw [if_neg c32] at H
                            have c32b0 : ((t112.length : Int) == 256) = false := beq_eq_false_iff_ne.mpr c32
                            have c32b1 : ((t112.length : Int) != 256) = true := bne_iff_ne.mpr c32
                            have H' := Aside0.mk H
                            clear H
                            obtain ⟨Ao39, co39, eo39⟩ := Kd.R_slice HO114.out
                            subst eo39
                            go_wp2
                            go_meet
                            case rel => exact ⟨_, (true), (by first | rfl | (simp; done) | (simp [*]; done)), H', ⟨by have := HJ2.out; have := HJ5.out; have := HK3.out; first | omega | exact Nat.le_refl _⟩, ⟨by (try simp only [hl5_3]); (with_reducible repeat (first | apply Kd.R_alloc | apply Kd.R_drewN | apply Kd.R_drew)); exact Kd.R_mono HO_5.out (fun _ hk => ⟨hk.1.1.1.2, ⟨hk.1.1.2, ⟨hk.1.2, hk.2⟩⟩⟩)⟩, ⟨by (try simp only [hl5_3]); (with_reducible repeat (first | apply Kd.R_alloc | apply Kd.R_drewN | apply Kd.R_drew)); exact Kd.R_mono HO111.out (fun _ hk => ⟨hk.1.1.1.2, ⟨hk.1.1.2, ⟨hk.1.2, hk.2⟩⟩⟩)⟩, ⟨by (try simp only [hl5_3]); (with_reducible repeat (first | apply Kd.R_alloc | apply Kd.R_drewN | apply Kd.R_drew)); exact Kd.R_mono HO114.out (fun _ hk => ⟨hk.1.1.1.2, ⟨hk.1.1.2, ⟨hk.1.2, hk.2⟩⟩⟩)⟩, ⟨by (try simp only [hl5_3]); (with_reducible repeat (first | apply Kd.R_alloc | apply Kd.R_drewN | apply Kd.R_drew)); exact Kd.R_mono HO117.out (fun _ hk => ⟨hk.1.1.1.2, ⟨hk.1.1.2, ⟨hk.1.2, hk.2⟩⟩⟩)⟩, ⟨by (try simp only [hl5_3]); (with_reducible repeat (first | apply Kd.R_alloc | apply Kd.R_drewN | apply Kd.R_drew)); exact Kd.R_mono HO120.out (fun _ hk => ⟨hk.1.1.1.2, ⟨hk.1.1.2, ⟨hk.1.2, hk.2⟩⟩⟩)⟩, ⟨by repeat (first | (with_reducible first | exact HB.out | apply below_alloc | apply pw_below_drewN | apply below_drew1) | exact HB.out)⟩⟩
                        · rw [if_neg c31] at H
                          have c31b0 : ((t109.length : Int) == 256) = false := beq_eq_false_iff_ne.mpr c31
                          have c31b1 : ((t109.length : Int) != 256) = true := bne_iff_ne.mpr c31
                          (first | rw [c31b0] | (simp only [i64_w, i32_w]; rw [c31b0]) | skip)
                          have H' := Aside0.mk H
                          clear H
                          go_wp2
                          go_meet
                          case rel => exact ⟨_, (true), (by first | rfl | (simp; done) | (simp [*]; done)), H', ⟨by have := HJ2.out; have := HJ5.out; have := HK3.out; first | omega | exact Nat.le_refl _⟩, ⟨by (try simp only [hl5_3]); (with_reducible repeat (first | apply Kd.R_alloc | apply Kd.R_drewN | apply Kd.R_drew)); exact Kd.R_mono HO_5.out (fun _ hk => ⟨hk.1.1.1.2, ⟨hk.1.1.2, ⟨hk.1.2, hk.2⟩⟩⟩)⟩, ⟨by (try simp only [hl5_3]); (with_reducible repeat (first | apply Kd.R_alloc | apply Kd.R_drewN | apply Kd.R_drew)); exact Kd.R_mono HO111.out (fun _ hk => ⟨hk.1.1.1.2, ⟨hk.1.1.2, ⟨hk.1.2, hk.2⟩⟩⟩)⟩, ⟨by (try simp only [hl5_3]); (with_reducible repeat (first | apply Kd.R_alloc | apply Kd.R_drewN | apply Kd.R_drew)); exact Kd.R_mono HO114.out (fun _ hk => ⟨hk.1.1.1.2, ⟨hk.1.1.2, ⟨hk.1.2, hk.2⟩⟩⟩)⟩, ⟨by (try simp only [hl5_3]); (with_reducible repeat (first | apply Kd.R_alloc | apply Kd.R_drewN | apply Kd.R_drew)); exact Kd.R_mono HO117.out (fun _ hk => ⟨hk.1.1.1.2, ⟨hk.1.1.2, ⟨hk.1.2, hk.2⟩⟩⟩)⟩, ⟨by (try simp only [hl5_3]); (with_reducible repeat (first | apply Kd.R_alloc | apply Kd.R_drewN | apply Kd.R_drew)); exact Kd.R_mono HO120.out (fun _ hk => ⟨hk.1.1.1.2, ⟨hk.1.1.2, ⟨hk.1.2, hk.2⟩⟩⟩)⟩, ⟨by repeat (first | (with_reducible first | exact HB.out | apply below_alloc | apply pw_below_drewN | apply below_drew1) | exact HB.out)⟩⟩
                      case rest =>
                        clear HC25
                        try clear c1
                        try clear p1
                        try clear q1
                        try clear hx1
                        try clear p2
                        try clear c3
                        try clear c4
                        try clear c4b0
                        try clear c4b1
                        try clear c5
                        try clear p6
                        try clear c7
                        try clear c7b0
                        try clear c7b1
                        try clear c8
                        try clear c9
                        try clear c9b0
                        try clear c9b1
                        try clear p10
                        try clear q10
                        try clear hx10
                        try clear c13
                        try clear c13b0
                        try clear c14
                        try clear c14b0
                        try clear c15
                        try clear c15b0
                        try clear c16
                        try clear c16b0
                        try clear c17
                        try clear c17b0
                        try clear p18
                        try clear q18
                        try clear hx18
                        try clear hf18
                        try clear c31
                        try clear c31b0
                        try clear c31b1
                        try clear c32
                        try clear c32b0
                        try clear c32b1
                        try clear c33
                        try clear c33b0
                        try clear c33b1
                        try clear hx106_0
                        try clear hx107_0
                        try clear hx18_0
                        try clear p106
                        try clear p107
                        try clear p18
                        try clear p2
                        try clear q106
                        try clear q107
                        try clear q18
                        obtain ⟨kq, x76_24, rfl, HA, HJ24, HO_5, HO_7, HO_8, HO_9, HO_10, HB⟩ := hcut
                        cases kq with
                        | zero => exact absurd HA.out (by simp [laws_FnWalshBack.j3])
                        | succ kj24 =>
                          have H := HA.out
                          clear HA
                          simp only [laws_FnWalshBack.j3] at H
                          by_cases c40 : x76_24 = true
                          · subst c40
                            have H1 : (none) = some r := by rw [if_pos rfl] at H; exact H
                            clear H
                            have H := H1
                            clear H1
                            exact absurd H (by simp)
                          · replace c40 := Bool.eq_false_iff.mpr c40
                            subst c40
                            have H1 : (laws_FnWalshBack.l1 kj24 l0 t109 t112 t115 t118 (x5_3.length : Int) 0) = some r := by rw [if_neg (show ¬ (false = true) by decide)] at H; exact H
                            clear H
                            have H := H1
                            clear H1
                            have H' := Aside0.mk H
                            clear H
                            go_wp2
                            try simp only [Act.put, List.setIfInBounds_toArray, List.set_cons_zero, List.set_cons_succ]
                            go_loopg [79] kj24 (fun kq v79 w' => ∃ (x79_5 : Int), v79 = .int .i64 x79_5 ∧ Aside0 (laws_FnWalshBack.l1 kq l0 t109 t112 t115 t118 (x5_3.length : Int) x79_5 = some r) ∧ Aside0 (kq ≤ kj24) ∧ Aside0 (Kd.R (Kd.int .u8) 26 w' w.heap.size (fun k_ => some k_ ≠ (v113 : Value).ownBlock ∧ some k_ ≠ (v116 : Value).ownBlock ∧ some k_ ≠ (v119 : Value).ownBlock) (.slice Ao29 t109.length co29) t109) ∧ Aside0 (Kd.R (Kd.int .u8) 26 w' w.heap.size (fun k_ => some k_ ≠ ((.slice Ao29 t109.length co29) : Value).ownBlock ∧ some k_ ≠ (v116 : Value).ownBlock ∧ some k_ ≠ (v119 : Value).ownBlock) v113 t112) ∧ Aside0 (Kd.R (Kd.int .u8) 26 w' w.heap.size (fun k_ => some k_ ≠ ((.slice Ao29 t109.length co29) : Value).ownBlock ∧ some k_ ≠ (v113 : Value).ownBlock ∧ some k_ ≠ (v119 : Value).ownBlock) v116 t115) ∧ Aside0 (Kd.R (Kd.int .u8) 26 w' w.heap.size (fun k_ => some k_ ≠ ((.slice Ao29 t109.length co29) : Value).ownBlock ∧ some k_ ≠ (v113 : Value).ownBlock ∧ some k_ ≠ (v116 : Value).ownBlock) v119 t118) ∧ Aside0 (Below w.heap.size w w'))
                            case atStart => exact ⟨(0), (by first | rfl | (simp; done) | (simp [*]; done)), H', ⟨Nat.le_refl _⟩, ⟨by (try simp only [hl5_3]); (with_reducible repeat (first | apply Kd.R_alloc | apply Kd.R_drewN | apply Kd.R_drew)); exact Kd.R_mono HO_7.out (fun _ hk => ⟨hk.2.1, ⟨hk.2.2.1, hk.2.2.2⟩⟩)⟩, ⟨by (try simp only [hl5_3]); (with_reducible repeat (first | apply Kd.R_alloc | apply Kd.R_drewN | apply Kd.R_drew)); exact Kd.R_mono HO_8.out (fun _ hk => ⟨hk.2.1, ⟨hk.2.2.1, hk.2.2.2⟩⟩)⟩, ⟨by (try simp only [hl5_3]); (with_reducible repeat (first | apply Kd.R_alloc | apply Kd.R_drewN | apply Kd.R_drew)); exact Kd.R_mono HO_9.out (fun _ hk => ⟨hk.2.1, ⟨hk.2.2.1, hk.2.2.2⟩⟩)⟩, ⟨by (try simp only [hl5_3]); (with_reducible repeat (first | apply Kd.R_alloc | apply Kd.R_drewN | apply Kd.R_drew)); exact Kd.R_mono HO_10.out (fun _ hk => ⟨hk.2.1, ⟨hk.2.2.1, hk.2.2.2⟩⟩)⟩, ⟨by repeat (first | (with_reducible first | exact HB.out | apply below_alloc | apply pw_below_drewN | apply below_drew1) | exact HB.out)⟩⟩
                            case round =>
                              clear H'
                              try clear c1
                              try clear p1
                              try clear q1
                              try clear hx1
                              try clear p2
                              try clear c3
                              try clear c4
                              try clear c4b0
                              try clear c4b1
                              try clear c5
                              try clear p6
                              try clear c7
                              try clear c7b0
                              try clear c7b1
                              try clear c8
                              try clear c9
                              try clear c9b0
                              try clear c9b1
                              try clear p10
                              try clear q10
                              try clear hx10
                              try clear c13
                              try clear c13b0
                              try clear c14
                              try clear c14b0
                              try clear c15
                              try clear c15b0
                              try clear c16
                              try clear c16b0
                              try clear c17
                              try clear c17b0
                              try clear p18
                              try clear q18
                              try clear hx18
                              try clear hf18
                              try clear c31
                              try clear c31b0
                              try clear c31b1
                              try clear c32
                              try clear c32b0
                              try clear c32b1
                              try clear c33
                              try clear c33b0
                              try clear c33b1
                              try clear c40
                              try clear hx106_0
                              try clear hx107_0
                              try clear hx18_0
                              try clear p1
                              try clear p10
                              try clear p106
                              try clear p107
                              try clear p18
                              try clear p2
                              try clear p6
                              try clear q1
                              try clear q10
                              try clear q106
                              try clear q107
                              try clear q18
                              obtain ⟨x79_5, rfl, HA, HK5, HO_7, HO_8, HO_9, HO_10, HB⟩ := hrel
                              cases gk with
                              | zero => exact absurd HA.out (by simp [laws_FnWalshBack.l1])
                              | succ k5 =>
                                have H := HA.out
                                clear HA
                                simp only [laws_FnWalshBack.l1] at H
                                by_cases c41 : x79_5 < (x5_3.length : Int)
                                · rw [if_pos c41] at H
                                  have c41b0 : decide (x79_5 < (x5_3.length : Int)) = true := decide_eq_true c41
                                  clear c41
                                  by_cases c42 : 0 ≤ x79_5
                                  · rw [if_pos c42] at H
                                    have c42b0 : decide (0 ≤ x79_5) = true := decide_eq_true c42
                                    clear c42
                                    by_cases c43 : x79_5 < (t118.length : Int)
                                    · rw [if_pos c43] at H
                                      have c43b0 : decide (x79_5 < (t118.length : Int)) = true := decide_eq_true c43
                                      clear c43
                                      replace H := Option.bind_eq_some_iff.mp H
                                      obtain ⟨t122, A440, H⟩ := H
                                      replace H : (if x79_5 < (l0.length : Int) then ((laws_mod.f (wrap64 (rd l0 x79_5))).bind fun t124 => (if t122 = t124 then (if x79_5 < (t115.length : Int) then ((laws_mod.f (wrap64 (rd t115 x79_5))).bind fun t126 => (if x79_5 < (t109.length : Int) then (if x79_5 < (t112.length : Int) then ((laws_mod.f (wrap64 ((wrap64 (rd t109 x79_5)) + (wrap64 (rd t112 x79_5))))).bind fun t129 => (if t126 = t129 then (laws_FnWalshBack.l1 k5 l0 t109 t112 t115 t118 (x5_3.length : Int) (wrap64 (x79_5 + 1))) else (none))) else (none)) else (none))) else (none)) else (none))) else (none)) = some r := H
                                      have A44 := Aside0.mk A440
                                      clear A440
                                      by_cases c45 : x79_5 < (l0.length : Int)
                                      · rw [if_pos c45] at H
                                        have c45b0 : decide (x79_5 < (l0.length : Int)) = true := decide_eq_true c45
                                        clear c45
                                        replace H := Option.bind_eq_some_iff.mp H
                                        obtain ⟨t124, A460, H⟩ := H
                                        replace H : (if t122 = t124 then (if x79_5 < (t115.length : Int) then ((laws_mod.f (wrap64 (rd t115 x79_5))).bind fun t126 => (if x79_5 < (t109.length : Int) then (if x79_5 < (t112.length : Int) then ((laws_mod.f (wrap64 ((wrap64 (rd t109 x79_5)) + (wrap64 (rd t112 x79_5))))).bind fun t129 => (if t126 = t129 then (laws_FnWalshBack.l1 k5 l0 t109 t112 t115 t118 (x5_3.length : Int) (wrap64 (x79_5 + 1))) else (none))) else (none)) else (none))) else (none)) else (none)) = some r := H
                                        have A46 := Aside0.mk A460
                                        clear A460
                                        by_cases c47 : t122 = t124
                                        · rw [if_pos c47] at H
                                          have c47b0 : (t122 == t124) = true := beq_iff_eq.mpr c47
                                          have c47b1 : (t122 != t124) = false := bne_eq_false_iff_eq.mpr c47
                                          clear c47
                                          by_cases c48 : x79_5 < (t115.length : Int)
                                          · rw [if_pos c48] at H
                                            have c48b0 : decide (x79_5 < (t115.length : Int)) = true := decide_eq_true c48
                                            clear c48
                                            replace H := Option.bind_eq_some_iff.mp H
                                            obtain ⟨t126, A490, H⟩ := H
                                            replace H : (if x79_5 < (t109.length : Int) then (if x79_5 < (t112.length : Int) then ((laws_mod.f (wrap64 ((wrap64 (rd t109 x79_5)) + (wrap64 (rd t112 x79_5))))).bind fun t129 => (if t126 = t129 then (laws_FnWalshBack.l1 k5 l0 t109 t112 t115 t118 (x5_3.length : Int) (wrap64 (x79_5 + 1))) else (none))) else (none)) else (none)) = some r := H
                                            have A49 := Aside0.mk A490
                                            clear A490
                                            by_cases c50 : x79_5 < (t109.length : Int)
                                            · rw [if_pos c50] at H
                                              have c50b0 : decide (x79_5 < (t109.length : Int)) = true := decide_eq_true c50
                                              clear c50
                                              by_cases c51 : x79_5 < (t112.length : Int)
                                              · rw [if_pos c51] at H
                                                have c51b0 : decide (x79_5 < (t112.length : Int)) = true := decide_eq_true c51
                                                clear c51
                                                replace H := Option.bind_eq_some_iff.mp H
                                                obtain ⟨t129, A520, H⟩ := H
                                                replace H : (if t126 = t129 then (laws_FnWalshBack.l1 k5 l0 t109 t112 t115 t118 (x5_3.length : Int) (wrap64 (x79_5 + 1))) else (none)) = some r := H
                                                have A52 := Aside0.mk A520
                                                clear A520
                                                by_cases c53 : t126 = t129
                                                · rw [if_pos c53] at H
                                                  have c53b0 : (t126 == t129) = true := beq_iff_eq.mpr c53
                                                  have c53b1 : (t126 != t129) = false := bne_eq_false_iff_eq.mpr c53
                                                  clear c53
                                                  have H' := Aside0.mk H
                                                  clear H
                                                  try go_wp2
                                                  (try (rw [drewN_self wr]; generalize hq_ : World.drewN wr _ = wr; have n0_ : Aside0 (Kd.R (Kd.int .u8) 26 wr w.heap.size (fun k_ => some k_ ≠ (.slice Ao29 t109.length co29 : Value).ownBlock ∧ some k_ ≠ (v113 : Value).ownBlock ∧ some k_ ≠ (v116 : Value).ownBlock) v119 t118) := ⟨by rw [← hq_]; exact (by (with_reducible repeat (first | apply Kd.R_alloc | apply Kd.R_drewN | apply Kd.R_drew)); exact HO_10.out)⟩; have n1_ : Aside0 (Kd.R (Kd.int .u8) 26 wr w.heap.size (fun k_ => some k_ ≠ (v119 : Value).ownBlock ∧ some k_ ≠ (v113 : Value).ownBlock ∧ some k_ ≠ (v116 : Value).ownBlock) (.slice Ao29 t109.length co29) t109) := ⟨by rw [← hq_]; exact (by (with_reducible repeat (first | apply Kd.R_alloc | apply Kd.R_drewN | apply Kd.R_drew)); exact Kd.R_mono HO_7.out (fun _ hk => ⟨hk.2.2, ⟨hk.1, hk.2.1⟩⟩))⟩; have n2_ : Aside0 (Kd.R (Kd.int .u8) 26 wr w.heap.size (fun k_ => some k_ ≠ (v119 : Value).ownBlock ∧ some k_ ≠ (.slice Ao29 t109.length co29 : Value).ownBlock ∧ some k_ ≠ (v116 : Value).ownBlock) v113 t112) := ⟨by rw [← hq_]; exact (by (with_reducible repeat (first | apply Kd.R_alloc | apply Kd.R_drewN | apply Kd.R_drew)); exact Kd.R_mono HO_8.out (fun _ hk => ⟨hk.2.2, ⟨hk.1, hk.2.1⟩⟩))⟩; have n3_ : Aside0 (Kd.R (Kd.int .u8) 26 wr w.heap.size (fun k_ => some k_ ≠ (v119 : Value).ownBlock ∧ some k_ ≠ (.slice Ao29 t109.length co29 : Value).ownBlock ∧ some k_ ≠ (v113 : Value).ownBlock) v116 t115) := ⟨by rw [← hq_]; exact (by (with_reducible repeat (first | apply Kd.R_alloc | apply Kd.R_drewN | apply Kd.R_drew)); exact Kd.R_mono HO_9.out (fun _ hk => ⟨hk.2.2, ⟨hk.1, hk.2.1⟩⟩))⟩; have n4_ : Aside0 (Below w.heap.size w wr) := ⟨by rw [← hq_]; exact (by repeat (first | (with_reducible first | exact HB.out | apply below_alloc | apply pw_below_drewN | apply below_drew1) | exact HB.out))⟩; clear HO_10 HO_7 HO_8 HO_9 HB hq_; have HO_10 := n0_; have HO_7 := n1_; have HO_8 := n2_; have HO_9 := n3_; have HB := n4_; clear n0_ n1_ n2_ n3_ n4_))
                                                  have n0_ := Aside0.mk (Kd.R_drew HO_7.out)
                                                  have n1_ := Aside0.mk (Kd.R_drew HO_8.out)
                                                  have n2_ := Aside0.mk (Kd.R_drew HO_9.out)
                                                  have n3_ := Aside0.mk (Kd.R_drew HO_10.out)
                                                  have n4_ := Aside0.mk (below_drew1 HB.out)
                                                  clear HO_7
                                                  clear HO_8
                                                  clear HO_9
                                                  clear HO_10
                                                  clear HB
                                                  have HO_7 := n0_
                                                  have HO_8 := n1_
                                                  have HO_9 := n2_
                                                  have HO_10 := n3_
                                                  have HB := n4_
                                                  clear n0_ n1_ n2_ n3_ n4_
                                                  obtain ⟨Ao55, co55, eo55⟩ := Kd.R_slice HO_10.out
                                                  (first | subst eo55 | (injection eo55 with f1_ f2_ f3_; have f4_ := f1_.symm; have f5_ := f3_.symm; clear f1_ f2_ f3_; subst f4_; subst f5_))
                                                  obtain ⟨Ao57, co57, eo57⟩ := Kd.R_slice HO_8.out
                                                  (first | subst eo57 | (injection eo57 with f1_ f2_ f3_; have f4_ := f1_.symm; have f5_ := f3_.symm; clear f1_ f2_ f3_; subst f4_; subst f5_))
                                                  obtain ⟨Ao56, co56, eo56⟩ := Kd.R_slice HO_9.out
                                                  (first | subst eo56 | (injection eo56 with f1_ f2_ f3_; have f4_ := f1_.symm; have f5_ := f3_.symm; clear f1_ f2_ f3_; subst f4_; subst f5_))
                                                  have p121 : 0 ≤ (x79_5 : Int) := of_decide_eq_true (by first | (with_reducible assumption) | assumption)
                                                  have q121 : x79_5 < (t118.length : Int) := of_decide_eq_true (by first | (with_reducible assumption) | assumption)
                                                  obtain ⟨ad121, e121, hx121_0⟩ := Kd.at_int (Kd.R_reads' HO_10.out).2.2 x79_5 p121 q121
                                                  cases e121
                                                  replace p121 := eq_true p121
                                                  replace q121 := eq_true q121
                                                  have p123 : 0 ≤ (x79_5 : Int) := of_decide_eq_true (by first | (with_reducible assumption) | assumption)
                                                  have q123 : x79_5 < (l0.length : Int) := of_decide_eq_true (by first | (with_reducible assumption) | assumption)
                                                  obtain ⟨ad123, e123, hx123_0⟩ := Kd.at_int HR0.out x79_5 p123 q123
                                                  have hw123_0 := hx123_0
                                                  cases e123
                                                  replace hx123_0 := (HB.out.cell (World.block_lt_of_cell? w _ hx123_0)).trans hx123_0
                                                  replace p123 := eq_true p123
                                                  replace q123 := eq_true q123
                                                  have p125 : 0 ≤ (x79_5 : Int) := of_decide_eq_true (by first | (with_reducible assumption) | assumption)
                                                  have q125 : x79_5 < (t115.length : Int) := of_decide_eq_true (by first | (with_reducible assumption) | assumption)
                                                  obtain ⟨ad125, e125, hx125_0⟩ := Kd.at_int (Kd.R_reads' HO_9.out).2.2 x79_5 p125 q125
                                                  cases e125
                                                  replace p125 := eq_true p125
                                                  replace q125 := eq_true q125
                                                  have p127 : 0 ≤ (x79_5 : Int) := of_decide_eq_true (by first | (with_reducible assumption) | assumption)
                                                  have q127 : x79_5 < (t109.length : Int) := of_decide_eq_true (by first | (with_reducible assumption) | assumption)
                                                  obtain ⟨ad127, e127, hx127_0⟩ := Kd.at_int (Kd.R_reads' HO_7.out).2.2 x79_5 p127 q127
                                                  cases e127
                                                  replace p127 := eq_true p127
                                                  replace q127 := eq_true q127
                                                  have p128 : 0 ≤ (x79_5 : Int) := of_decide_eq_true (by first | (with_reducible assumption) | assumption)
                                                  have q128 : x79_5 < (t112.length : Int) := of_decide_eq_true (by first | (with_reducible assumption) | assumption)
                                                  obtain ⟨ad128, e128, hx128_0⟩ := Kd.at_int (Kd.R_reads' HO_8.out).2.2 x79_5 p128 q128
                                                  cases e128
                                                  replace p128 := eq_true p128
                                                  replace q128 := eq_true q128
                                                  refine start_ (n := 34) (S := fun w' => w'.cell? (ad121.add (x79_5).toNat) = some (.int .u8 (rd t118 x79_5)) ∧ w'.cell? (ad123.add (x79_5).toNat) = some (.int .u8 (rd l0 x79_5)) ∧ w'.cell? (ad125.add (x79_5).toNat) = some (.int .u8 (rd t115 x79_5)) ∧ w'.cell? (ad127.add (x79_5).toNat) = some (.int .u8 (rd t109 x79_5)) ∧ w'.cell? (ad128.add (x79_5).toNat) = some (.int .u8 (rd t112 x79_5))) (ds := []) #[false, false, false, false, false, false, false, false, false, false, false, false, false, false, false, false, false, false, false, false, false, false, false, false, false, false, false, false, false, false, false, false, false, false] (by kernel_rfl) rfl rfl ⟨hx121_0, ((HB.out.cell (World.block_lt_of_cell? w _ hw123_0)).trans hw123_0), hx125_0, hx127_0, hx128_0⟩ (fun hHeld => ?_); refine with_tabW laws_FnWalshBack.tab18 laws_FnWalshBack.bits18 (fun HT_ HW_ => ?_)
                                                  generalize wr.drew = w54 at HO_7 HO_8 HO_9 HO_10 HB hx121_0 hx123_0 hx125_0 hx127_0 hx128_0 hHeld ⊢
                                                  refine pure_ (i := 0) (N := some 82) (v := ?_) (a' := ?_) #[true, false, false, false, false, false, false, false, false, false, false, false, false, false, false, false, false, false, false, false, false, false, false, false, false, false, false, false, false, false, false, false, false, false] rfl rfl (any_of HT_.out (by kernel_rfl)) (fun _ _ _ h => h) (Or.inl ⟨by rfl, ?_⟩) ?_ ?_
                                                  rotate_left
                                                  · intro w'
                                                    go_simp
                                                    with_reducible rfl
                                                  rotate_left
                                                  · simp only [Act.put, List.setIfInBounds_toArray, List.set_cons_zero, List.set_cons_succ, i64_w, i32_w]
                                                    rfl
                                                  refine pure_ (i := 1) (N := some 83) (v := ?_) (a' := ?_) #[true, true, false, false, false, false, false, false, false, false, false, false, false, false, false, false, false, false, false, false, false, false, false, false, false, false, false, false, false, false, false, false, false, false] rfl rfl (any_of HT_.out (by kernel_rfl)) (fun _ _ _ h => h) (Or.inl ⟨by rfl, ?_⟩) ?_ ?_
                                                  rotate_left
                                                  · intro w'
                                                    go_simp
                                                    with_reducible rfl
                                                  rotate_left
                                                  · simp only [Act.put, List.setIfInBounds_toArray, List.set_cons_zero, List.set_cons_succ, i64_w, i32_w]
                                                    rfl
                                                  refine pure_ (i := 2) (N := some 84) (v := ?_) (a' := ?_) #[true, true, true, false, false, false, false, false, false, false, false, false, false, false, false, false, false, false, false, false, false, false, false, false, false, false, false, false, false, false, false, false, false, false] rfl rfl (any_of HT_.out (by kernel_rfl)) (fun _ _ _ h => h) (Or.inl ⟨by rfl, ?_⟩) ?_ ?_
                                                  rotate_left
                                                  · intro w'
                                                    go_simp
                                                    with_reducible rfl
                                                  rotate_left
                                                  · simp only [Act.put, List.setIfInBounds_toArray, List.set_cons_zero, List.set_cons_succ, i64_w, i32_w]
                                                    rfl
                                                  refine pure_ (i := 6) (N := some 88) (v := ?_) (a' := ?_) #[true, true, true, false, false, false, true, false, false, false, false, false, false, false, false, false, false, false, false, false, false, false, false, false, false, false, false, false, false, false, false, false, false, false] rfl rfl (any_of HT_.out (by kernel_rfl)) (fun _ _ _ h => h) (Or.inl ⟨by rfl, ?_⟩) ?_ ?_
                                                  rotate_left
                                                  · intro w'
                                                    go_simp
                                                    with_reducible rfl
                                                  rotate_left
                                                  · simp only [Act.put, List.setIfInBounds_toArray, List.set_cons_zero, List.set_cons_succ, i64_w, i32_w]
                                                    rfl
                                                  refine pure_ (i := 7) (N := some 89) (v := ?_) (a' := ?_) #[true, true, true, false, false, false, true, true, false, false, false, false, false, false, false, false, false, false, false, false, false, false, false, false, false, false, false, false, false, false, false, false, false, false] rfl rfl (any_of HT_.out (by kernel_rfl)) (fun _ _ _ h => h) (Or.inl ⟨by rfl, ?_⟩) ?_ ?_
                                                  rotate_left
                                                  · intro w'
                                                    go_simp
                                                    with_reducible rfl
                                                  rotate_left
                                                  · simp only [Act.put, List.setIfInBounds_toArray, List.set_cons_zero, List.set_cons_succ, i64_w, i32_w]
                                                    rfl
                                                  refine pure_ (i := 8) (N := some 90) (v := ?_) (a' := ?_) #[true, true, true, false, false, false, true, true, true, false, false, false, false, false, false, false, false, false, false, false, false, false, false, false, false, false, false, false, false, false, false, false, false, false] rfl rfl (any_of HT_.out (by kernel_rfl)) (fun _ _ _ h => h) (Or.inl ⟨by rfl, ?_⟩) ?_ ?_
                                                  rotate_left
                                                  · intro w'
                                                    go_simp
                                                    with_reducible rfl
                                                  rotate_left
                                                  · simp only [Act.put, List.setIfInBounds_toArray, List.set_cons_zero, List.set_cons_succ, i64_w, i32_w]
                                                    rfl
                                                  refine take_ (i := 3) (N := some 85) (v := ?_) (a' := ?_) #[true, true, true, true, false, false, true, true, true, false, false, false, false, false, false, false, false, false, false, false, false, false, false, false, false, false, false, false, false, false, false, false, false, false] rfl rfl (take_ofW HT_.out HW_.out (by kernel_rfl)) (fun _ _ _ h => h) (Or.inl ⟨by rfl, ?_⟩) hHeld ?_ ?_
                                                  rotate_left
                                                  · rintro w' ⟨s0, s1, s2, s3, s4⟩
                                                    go_simp
                                                    with_reducible rfl
                                                  rotate_left
                                                  · simp only [Act.put, List.setIfInBounds_toArray, List.set_cons_zero, List.set_cons_succ, i64_w, i32_w]
                                                    rfl
                                                  refine pure_ (i := 4) (N := some 86) (v := ?_) (a' := ?_) #[true, true, true, true, true, false, true, true, true, false, false, false, false, false, false, false, false, false, false, false, false, false, false, false, false, false, false, false, false, false, false, false, false, false] rfl rfl (any_of HT_.out (by kernel_rfl)) (fun _ _ _ h => h) (Or.inl ⟨by rfl, ?_⟩) ?_ ?_
                                                  rotate_left
                                                  · intro w'
                                                    go_simp
                                                    with_reducible rfl
                                                  rotate_left
                                                  · simp only [Act.put, List.setIfInBounds_toArray, List.set_cons_zero, List.set_cons_succ, i64_w, i32_w]
                                                    rfl
                                                  refine take_ (i := 9) (N := some 91) (v := ?_) (a' := ?_) #[true, true, true, true, true, false, true, true, true, true, false, false, false, false, false, false, false, false, false, false, false, false, false, false, false, false, false, false, false, false, false, false, false, false] rfl rfl (take_ofW HT_.out HW_.out (by kernel_rfl)) (fun _ _ _ h => h) (Or.inl ⟨by rfl, ?_⟩) hHeld ?_ ?_
                                                  rotate_left
                                                  · rintro w' ⟨s0, s1, s2, s3, s4⟩
                                                    go_simp
                                                    with_reducible rfl
                                                  rotate_left
                                                  · simp only [Act.put, List.setIfInBounds_toArray, List.set_cons_zero, List.set_cons_succ, i64_w, i32_w]
                                                    rfl
                                                  refine pure_ (i := 10) (N := some 92) (v := ?_) (a' := ?_) #[true, true, true, true, true, false, true, true, true, true, true, false, false, false, false, false, false, false, false, false, false, false, false, false, false, false, false, false, false, false, false, false, false, false] rfl rfl (any_of HT_.out (by kernel_rfl)) (fun _ _ _ h => h) (Or.inl ⟨by rfl, ?_⟩) ?_ ?_
                                                  rotate_left
                                                  · intro w'
                                                    go_simp
                                                    with_reducible rfl
                                                  rotate_left
                                                  · simp only [Act.put, List.setIfInBounds_toArray, List.set_cons_zero, List.set_cons_succ, i64_w, i32_w]
                                                    rfl
                                                  refine one_ (i := 5) (N := some 87) #[true, true, true, true, true, true, true, true, true, true, true, false, false, false, false, false, false, false, false, false, false, false, false, false, false, false, false, false, false, false, false, false, false, false] rfl rfl (one_of HT_.out (by kernel_rfl)) (by decide) (fun K hK => ?_)
                                                  refine goes_ Try.func5 (by kernel_rfl) rfl #[.int .i64 (wrap64 (rd t118 x79_5))] (by rfl) rfl rfl (by (try simp only [List.map_toArray, List.map_cons, List.map_nil]); first | done | rfl | (simp only [List.length_drop, List.length_take]; rfl)) ?_
                                                  with_reducible refine (laws_mod.calls (wrap64 (rd t118 x79_5)) t122 _ A44.out).mono ?_
                                                  rintro e w' ⟨rfl, ⟨nd, rfl⟩⟩
                                                  refine ⟨_, rfl, ?_⟩
                                                  refine hK.out _ _ ⟨hHeld.1, ((HB.out.cell (World.block_lt_of_cell? w _ hw123_0)).trans hw123_0), hHeld.2.2.1, hHeld.2.2.2.1, hHeld.2.2.2.2⟩ (fun hHeld => ?_)
                                                  clear hK K
                                                  refine norm_ (a' := ?_) ?_ ?_
                                                  rotate_left
                                                  · show Act.put _ (some 87) _ = _
                                                    simp only [Act.put, List.setIfInBounds_toArray, List.set_cons_zero, List.set_cons_succ, i64_w, i32_w]
                                                    rfl
                                                  refine one_ (i := 11) (N := some 93) #[true, true, true, true, true, true, true, true, true, true, true, true, false, false, false, false, false, false, false, false, false, false, false, false, false, false, false, false, false, false, false, false, false, false] rfl rfl (one_of HT_.out (by kernel_rfl)) (by decide) (fun K hK => ?_)
                                                  refine goes_ Try.func5 (by kernel_rfl) rfl #[.int .i64 (wrap64 (rd l0 x79_5))] (by rfl) rfl rfl (by (try simp only [List.map_toArray, List.map_cons, List.map_nil]); first | done | rfl | (simp only [List.length_drop, List.length_take]; rfl)) ?_
                                                  with_reducible refine (laws_mod.calls (wrap64 (rd l0 x79_5)) t124 _ A46.out).mono ?_
                                                  rintro e w' ⟨rfl, ⟨nd, rfl⟩⟩
                                                  refine ⟨_, rfl, ?_⟩
                                                  refine hK.out _ _ ⟨hHeld.1, ((HB.out.cell (World.block_lt_of_cell? w _ hw123_0)).trans hw123_0), hHeld.2.2.1, hHeld.2.2.2.1, hHeld.2.2.2.2⟩ (fun hHeld => ?_)
                                                  clear hK K
                                                  refine norm_ (a' := ?_) ?_ ?_
                                                  rotate_left
                                                  · show Act.put _ (some 93) _ = _
                                                    simp only [Act.put, List.setIfInBounds_toArray, List.set_cons_zero, List.set_cons_succ, i64_w, i32_w]
                                                    rfl
                                                  refine pure_ (i := 12) (N := some 94) (v := ?_) (a' := ?_) #[true, true, true, true, true, true, true, true, true, true, true, true, true, false, false, false, false, false, false, false, false, false, false, false, false, false, false, false, false, false, false, false, false, false] rfl rfl (any_of HT_.out (by kernel_rfl)) (fun _ _ _ h => h) (Or.inl ⟨by rfl, ?_⟩) ?_ ?_
                                                  rotate_left
                                                  · intro w'
                                                    go_simp
                                                    with_reducible rfl
                                                  rotate_left
                                                  · simp only [Act.put, List.setIfInBounds_toArray, List.set_cons_zero, List.set_cons_succ, i64_w, i32_w]
                                                    rfl
                                                  refine pure_ (i := 13) (N := some 95) (v := ?_) (a' := ?_) #[true, true, true, true, true, true, true, true, true, true, true, true, true, true, false, false, false, false, false, false, false, false, false, false, false, false, false, false, false, false, false, false, false, false] rfl rfl (any_of HT_.out (by kernel_rfl)) (fun _ _ _ h => h) (Or.inl ⟨by rfl, ?_⟩) ?_ ?_
                                                  rotate_left
                                                  · intro w'
                                                    go_simp
                                                    with_reducible rfl
                                                  rotate_left
                                                  · simp only [Act.put, List.setIfInBounds_toArray, List.set_cons_zero, List.set_cons_succ, i64_w, i32_w]
                                                    rfl
                                                  refine pure_ (i := 14) (N := some 96) (v := ?_) (a' := ?_) #[true, true, true, true, true, true, true, true, true, true, true, true, true, true, true, false, false, false, false, false, false, false, false, false, false, false, false, false, false, false, false, false, false, false] rfl rfl (any_of HT_.out (by kernel_rfl)) (fun _ _ _ h => h) (Or.inl ⟨by rfl, ?_⟩) ?_ ?_
                                                  rotate_left
                                                  · intro w'
                                                    go_simp
                                                    with_reducible rfl
                                                  rotate_left
                                                  · simp only [Act.put, List.setIfInBounds_toArray, List.set_cons_zero, List.set_cons_succ, i64_w, i32_w]
                                                    rfl
                                                  refine pure_ (i := 15) (N := some 97) (v := ?_) (a' := ?_) #[true, true, true, true, true, true, true, true, true, true, true, true, true, true, true, true, false, false, false, false, false, false, false, false, false, false, false, false, false, false, false, false, false, false] rfl rfl (any_of HT_.out (by kernel_rfl)) (fun _ _ _ h => h) (Or.inl ⟨by rfl, ?_⟩) ?_ ?_
                                                  rotate_left
                                                  · intro w'
                                                    go_simp
                                                    with_reducible rfl
                                                  rotate_left
                                                  · simp only [Act.put, List.setIfInBounds_toArray, List.set_cons_zero, List.set_cons_succ, i64_w, i32_w]
                                                    rfl
                                                  refine pure_ (i := 16) (N := some 98) (v := ?_) (a' := ?_) #[true, true, true, true, true, true, true, true, true, true, true, true, true, true, true, true, true, false, false, false, false, false, false, false, false, false, false, false, false, false, false, false, false, false] rfl rfl (any_of HT_.out (by kernel_rfl)) (fun _ _ _ h => h) (Or.inl ⟨by rfl, ?_⟩) ?_ ?_
                                                  rotate_left
                                                  · intro w'
                                                    go_simp
                                                    with_reducible rfl
                                                  rotate_left
                                                  · simp only [Act.put, List.setIfInBounds_toArray, List.set_cons_zero, List.set_cons_succ, i64_w, i32_w]
                                                    rfl
                                                  refine pure_ (i := 20) (N := some 102) (v := ?_) (a' := ?_) #[true, true, true, true, true, true, true, true, true, true, true, true, true, true, true, true, true, false, false, false, true, false, false, false, false, false, false, false, false, false, false, false, false, false] rfl rfl (any_of HT_.out (by kernel_rfl)) (fun _ _ _ h => h) (Or.inl ⟨by rfl, ?_⟩) ?_ ?_
                                                  rotate_left
                                                  · intro w'
                                                    go_simp
                                                    with_reducible rfl
                                                  rotate_left
                                                  · simp only [Act.put, List.setIfInBounds_toArray, List.set_cons_zero, List.set_cons_succ, i64_w, i32_w]
                                                    rfl
                                                  refine pure_ (i := 21) (N := some 103) (v := ?_) (a' := ?_) #[true, true, true, true, true, true, true, true, true, true, true, true, true, true, true, true, true, false, false, false, true, true, false, false, false, false, false, false, false, false, false, false, false, false] rfl rfl (any_of HT_.out (by kernel_rfl)) (fun _ _ _ h => h) (Or.inl ⟨by rfl, ?_⟩) ?_ ?_
                                                  rotate_left
                                                  · intro w'
                                                    go_simp
                                                    with_reducible rfl
                                                  rotate_left
                                                  · simp only [Act.put, List.setIfInBounds_toArray, List.set_cons_zero, List.set_cons_succ, i64_w, i32_w]
                                                    rfl
                                                  refine pure_ (i := 22) (N := some 104) (v := ?_) (a' := ?_) #[true, true, true, true, true, true, true, true, true, true, true, true, true, true, true, true, true, false, false, false, true, true, true, false, false, false, false, false, false, false, false, false, false, false] rfl rfl (any_of HT_.out (by kernel_rfl)) (fun _ _ _ h => h) (Or.inl ⟨by rfl, ?_⟩) ?_ ?_
                                                  rotate_left
                                                  · intro w'
                                                    go_simp
                                                    with_reducible rfl
                                                  rotate_left
                                                  · simp only [Act.put, List.setIfInBounds_toArray, List.set_cons_zero, List.set_cons_succ, i64_w, i32_w]
                                                    rfl
                                                  refine pure_ (i := 25) (N := some 107) (v := ?_) (a' := ?_) #[true, true, true, true, true, true, true, true, true, true, true, true, true, true, true, true, true, false, false, false, true, true, true, false, false, true, false, false, false, false, false, false, false, false] rfl rfl (any_of HT_.out (by kernel_rfl)) (fun _ _ _ h => h) (Or.inl ⟨by rfl, ?_⟩) ?_ ?_
                                                  rotate_left
                                                  · intro w'
                                                    go_simp
                                                    with_reducible rfl
                                                  rotate_left
                                                  · simp only [Act.put, List.setIfInBounds_toArray, List.set_cons_zero, List.set_cons_succ, i64_w, i32_w]
                                                    rfl
                                                  refine pure_ (i := 26) (N := some 108) (v := ?_) (a' := ?_) #[true, true, true, true, true, true, true, true, true, true, true, true, true, true, true, true, true, false, false, false, true, true, true, false, false, true, true, false, false, false, false, false, false, false] rfl rfl (any_of HT_.out (by kernel_rfl)) (fun _ _ _ h => h) (Or.inl ⟨by rfl, ?_⟩) ?_ ?_
                                                  rotate_left
                                                  · intro w'
                                                    go_simp
                                                    with_reducible rfl
                                                  rotate_left
                                                  · simp only [Act.put, List.setIfInBounds_toArray, List.set_cons_zero, List.set_cons_succ, i64_w, i32_w]
                                                    rfl
                                                  refine pure_ (i := 27) (N := some 109) (v := ?_) (a' := ?_) #[true, true, true, true, true, true, true, true, true, true, true, true, true, true, true, true, true, false, false, false, true, true, true, false, false, true, true, true, false, false, false, false, false, false] rfl rfl (any_of HT_.out (by kernel_rfl)) (fun _ _ _ h => h) (Or.inl ⟨by rfl, ?_⟩) ?_ ?_
                                                  rotate_left
                                                  · intro w'
                                                    go_simp
                                                    with_reducible rfl
                                                  rotate_left
                                                  · simp only [Act.put, List.setIfInBounds_toArray, List.set_cons_zero, List.set_cons_succ, i64_w, i32_w]
                                                    rfl
                                                  refine take_ (i := 17) (N := some 99) (v := ?_) (a' := ?_) #[true, true, true, true, true, true, true, true, true, true, true, true, true, true, true, true, true, true, false, false, true, true, true, false, false, true, true, true, false, false, false, false, false, false] rfl rfl (take_ofW HT_.out HW_.out (by kernel_rfl)) (fun _ _ _ h => h) (Or.inl ⟨by rfl, ?_⟩) hHeld ?_ ?_
                                                  rotate_left
                                                  · rintro w' ⟨s0, s1, s2, s3, s4⟩
                                                    go_simp
                                                    with_reducible rfl
                                                  rotate_left
                                                  · simp only [Act.put, List.setIfInBounds_toArray, List.set_cons_zero, List.set_cons_succ, i64_w, i32_w]
                                                    rfl
                                                  refine pure_ (i := 18) (N := some 100) (v := ?_) (a' := ?_) #[true, true, true, true, true, true, true, true, true, true, true, true, true, true, true, true, true, true, true, false, true, true, true, false, false, true, true, true, false, false, false, false, false, false] rfl rfl (any_of HT_.out (by kernel_rfl)) (fun _ _ _ h => h) (Or.inl ⟨by rfl, ?_⟩) ?_ ?_
                                                  rotate_left
                                                  · intro w'
                                                    go_simp
                                                    with_reducible rfl
                                                  rotate_left
                                                  · simp only [Act.put, List.setIfInBounds_toArray, List.set_cons_zero, List.set_cons_succ, i64_w, i32_w]
                                                    rfl
                                                  refine take_ (i := 23) (N := some 105) (v := ?_) (a' := ?_) #[true, true, true, true, true, true, true, true, true, true, true, true, true, true, true, true, true, true, true, false, true, true, true, true, false, true, true, true, false, false, false, false, false, false] rfl rfl (take_ofW HT_.out HW_.out (by kernel_rfl)) (fun _ _ _ h => h) (Or.inl ⟨by rfl, ?_⟩) hHeld ?_ ?_
                                                  rotate_left
                                                  · rintro w' ⟨s0, s1, s2, s3, s4⟩
                                                    go_simp
                                                    with_reducible rfl
                                                  rotate_left
                                                  · simp only [Act.put, List.setIfInBounds_toArray, List.set_cons_zero, List.set_cons_succ, i64_w, i32_w]
                                                    rfl
                                                  refine pure_ (i := 24) (N := some 106) (v := ?_) (a' := ?_) #[true, true, true, true, true, true, true, true, true, true, true, true, true, true, true, true, true, true, true, false, true, true, true, true, true, true, true, true, false, false, false, false, false, false] rfl rfl (any_of HT_.out (by kernel_rfl)) (fun _ _ _ h => h) (Or.inl ⟨by rfl, ?_⟩) ?_ ?_
                                                  rotate_left
                                                  · intro w'
                                                    go_simp
                                                    with_reducible rfl
                                                  rotate_left
                                                  · simp only [Act.put, List.setIfInBounds_toArray, List.set_cons_zero, List.set_cons_succ, i64_w, i32_w]
                                                    rfl
                                                  refine take_ (i := 28) (N := some 110) (v := ?_) (a' := ?_) #[true, true, true, true, true, true, true, true, true, true, true, true, true, true, true, true, true, true, true, false, true, true, true, true, true, true, true, true, true, false, false, false, false, false] rfl rfl (take_ofW HT_.out HW_.out (by kernel_rfl)) (fun _ _ _ h => h) (Or.inl ⟨by rfl, ?_⟩) hHeld ?_ ?_
                                                  rotate_left
                                                  · rintro w' ⟨s0, s1, s2, s3, s4⟩
                                                    go_simp
                                                    with_reducible rfl
                                                  rotate_left
                                                  · simp only [Act.put, List.setIfInBounds_toArray, List.set_cons_zero, List.set_cons_succ, i64_w, i32_w]
                                                    rfl
                                                  refine pure_ (i := 29) (N := some 111) (v := ?_) (a' := ?_) #[true, true, true, true, true, true, true, true, true, true, true, true, true, true, true, true, true, true, true, false, true, true, true, true, true, true, true, true, true, true, false, false, false, false] rfl rfl (any_of HT_.out (by kernel_rfl)) (fun _ _ _ h => h) (Or.inl ⟨by rfl, ?_⟩) ?_ ?_
                                                  rotate_left
                                                  · intro w'
                                                    go_simp
                                                    with_reducible rfl
                                                  rotate_left
                                                  · simp only [Act.put, List.setIfInBounds_toArray, List.set_cons_zero, List.set_cons_succ, i64_w, i32_w]
                                                    rfl
                                                  refine pure_ (i := 30) (N := some 112) (v := ?_) (a' := ?_) #[true, true, true, true, true, true, true, true, true, true, true, true, true, true, true, true, true, true, true, false, true, true, true, true, true, true, true, true, true, true, true, false, false, false] rfl rfl (any_of HT_.out (by kernel_rfl)) (fun _ _ _ h => h) (Or.inl ⟨by rfl, ?_⟩) ?_ ?_
                                                  rotate_left
                                                  · intro w'
                                                    go_simp
                                                    with_reducible rfl
                                                  rotate_left
                                                  · simp only [Act.put, List.setIfInBounds_toArray, List.set_cons_zero, List.set_cons_succ, i64_w, i32_w]
                                                    rfl
                                                  refine one_ (i := 19) (N := some 101) #[true, true, true, true, true, true, true, true, true, true, true, true, true, true, true, true, true, true, true, true, true, true, true, true, true, true, true, true, true, true, true, false, false, false] rfl rfl (one_of HT_.out (by kernel_rfl)) (by decide) (fun K hK => ?_)
                                                  refine goes_ Try.func5 (by kernel_rfl) rfl #[.int .i64 (wrap64 (rd t115 x79_5))] (by rfl) rfl rfl (by (try simp only [List.map_toArray, List.map_cons, List.map_nil]); first | done | rfl | (simp only [List.length_drop, List.length_take]; rfl)) ?_
                                                  with_reducible refine (laws_mod.calls (wrap64 (rd t115 x79_5)) t126 _ A49.out).mono ?_
                                                  rintro e w' ⟨rfl, ⟨nd, rfl⟩⟩
                                                  refine ⟨_, rfl, ?_⟩
                                                  refine hK.out _ _ ⟨hHeld.1, ((HB.out.cell (World.block_lt_of_cell? w _ hw123_0)).trans hw123_0), hHeld.2.2.1, hHeld.2.2.2.1, hHeld.2.2.2.2⟩ (fun hHeld => ?_)
                                                  clear hK K
                                                  refine norm_ (a' := ?_) ?_ ?_
                                                  rotate_left
                                                  · show Act.put _ (some 101) _ = _
                                                    simp only [Act.put, List.setIfInBounds_toArray, List.set_cons_zero, List.set_cons_succ, i64_w, i32_w]
                                                    rfl
                                                  refine one_ (i := 31) (N := some 113) #[true, true, true, true, true, true, true, true, true, true, true, true, true, true, true, true, true, true, true, true, true, true, true, true, true, true, true, true, true, true, true, true, false, false] rfl rfl (one_of HT_.out (by kernel_rfl)) (by decide) (fun K hK => ?_)
                                                  refine goes_ Try.func5 (by kernel_rfl) rfl #[.int .i64 (wrap64 ((wrap64 (rd t109 x79_5)) + (wrap64 (rd t112 x79_5))))] (by rfl) rfl rfl (by (try simp only [List.map_toArray, List.map_cons, List.map_nil]); first | done | rfl | (simp only [List.length_drop, List.length_take]; rfl)) ?_
                                                  with_reducible refine (laws_mod.calls (wrap64 ((wrap64 (rd t109 x79_5)) + (wrap64 (rd t112 x79_5)))) t129 _ A52.out).mono ?_
                                                  rintro e w' ⟨rfl, ⟨nd, rfl⟩⟩
                                                  refine ⟨_, rfl, ?_⟩
                                                  refine hK.out _ _ ⟨hHeld.1, ((HB.out.cell (World.block_lt_of_cell? w _ hw123_0)).trans hw123_0), hHeld.2.2.1, hHeld.2.2.2.1, hHeld.2.2.2.2⟩ (fun hHeld => ?_)
                                                  clear hK K
                                                  refine norm_ (a' := ?_) ?_ ?_
                                                  rotate_left
                                                  · show Act.put _ (some 113) _ = _
                                                    simp only [Act.put, List.setIfInBounds_toArray, List.set_cons_zero, List.set_cons_succ, i64_w, i32_w]
                                                    rfl
                                                  refine pure_ (i := 32) (N := some 114) (v := ?_) (a' := ?_) #[true, true, true, true, true, true, true, true, true, true, true, true, true, true, true, true, true, true, true, true, true, true, true, true, true, true, true, true, true, true, true, true, true, false] rfl rfl (any_of HT_.out (by kernel_rfl)) (fun _ _ _ h => h) (Or.inl ⟨by rfl, ?_⟩) ?_ ?_
                                                  rotate_left
                                                  · intro w'
                                                    go_simp
                                                    with_reducible rfl
                                                  rotate_left
                                                  · simp only [Act.put, List.setIfInBounds_toArray, List.set_cons_zero, List.set_cons_succ, i64_w, i32_w]
                                                    rfl
                                                  refine pure_ (i := 33) (N := some 115) (v := ?_) (a' := ?_) #[true, true, true, true, true, true, true, true, true, true, true, true, true, true, true, true, true, true, true, true, true, true, true, true, true, true, true, true, true, true, true, true, true, true] rfl rfl (any_of HT_.out (by kernel_rfl)) (fun _ _ _ h => h) (Or.inl ⟨by rfl, ?_⟩) ?_ ?_
                                                  rotate_left
                                                  · intro w'
                                                    go_simp
                                                    with_reducible rfl
                                                  rotate_left
                                                  · simp only [Act.put, List.setIfInBounds_toArray, List.set_cons_zero, List.set_cons_succ, i64_w, i32_w]
                                                    rfl
                                                  refine done_ (done_of HT_.out (by kernel_rfl)) ?_
                                                  try go_wp2
                                                  go_roundg k5
                                                  case measure => have := HJ2.out; have := HJ5.out; have := HK3.out; have := HJ24.out; have := HK5.out; omega
                                                  case rel => exact ⟨(wrap64 (x79_5 + 1)), (by first | rfl | (simp; done) | (simp [*]; done)), H', ⟨by have := HJ2.out; have := HJ5.out; have := HK3.out; have := HJ24.out; have := HK5.out; omega⟩, ⟨by (try simp only [hl5_3]); (with_reducible repeat (first | apply Kd.R_alloc | apply Kd.R_drewN | apply Kd.R_drew)); exact HO_7.out⟩, ⟨by (try simp only [hl5_3]); (with_reducible repeat (first | apply Kd.R_alloc | apply Kd.R_drewN | apply Kd.R_drew)); exact HO_8.out⟩, ⟨by (try simp only [hl5_3]); (with_reducible repeat (first | apply Kd.R_alloc | apply Kd.R_drewN | apply Kd.R_drew)); exact HO_9.out⟩, ⟨by (try simp only [hl5_3]); (with_reducible repeat (first | apply Kd.R_alloc | apply Kd.R_drewN | apply Kd.R_drew)); exact HO_10.out⟩, ⟨by repeat (first | (with_reducible first | exact HB.out | apply below_alloc | apply pw_below_drewN | apply below_drew1) | exact HB.out)⟩⟩
                                                · rw [if_neg c53] at H
                                                  exact absurd H (by simp)
                                              · rw [if_neg c51] at H
                                                exact absurd H (by simp)
                                            · rw [if_neg c50] at H
                                              exact absurd H (by simp)
                                          · rw [if_neg c48] at H
                                            exact absurd H (by simp)
                                        · rw [if_neg c47] at H
                                          exact absurd H (by simp)
                                      · rw [if_neg c45] at H
                                        exact absurd H (by simp)
                                    · rw [if_neg c43] at H
                                      exact absurd H (by simp)
                                  · rw [if_neg c42] at H
                                    exact absurd H (by simp)
                                · rw [if_neg c41] at H
                                  have c41b0 : decide (x79_5 < (x5_3.length : Int)) = false := decide_eq_false c41
                                  clear c41
                                  obtain rfl := Option.some.inj H
                                  go_wp2
                                  go_ret
                                  exact ⟨by first | rfl | (simp [errW_none, errW_some] <;> rfl) | (simp [*, errW_none, errW_some] <;> rfl), by repeat (first | (with_reducible first | exact HB.out | apply below_alloc | apply pw_below_drewN | apply below_drew1) | exact HB.out)⟩
              · rw [if_neg c9] at H
                exact absurd H (by simp)

/-- THE ONE PURE STATEMENT of laws_FnWalshBack: yours. -/
def laws_FnWalshBack.Pure : Prop := ∀ (l0 : List Int) (l1 : List Int), l0.length ≤ maxLen → l0.length * 1 ≤ 140737488351232 → (∀ x ∈ l0, (Lit.int .u8 x).wf = true) → l1.length ≤ maxLen → l1.length * 1 ≤ 140737488351232 → (∀ x ∈ l1, (Lit.int .u8 x).wf = true) → ∃ k, laws_FnWalshBack.f k l0 l1 = some true
theorem laws_FnWalshBack.walk (P : laws_FnWalshBack.Pure) (a0 : Option Addr) (len0 cap0 : Nat) (z0 : List Int) (a1 : Option Addr) (len1 cap1 : Nat) (z1 : List Int) (w : World) (w0 : (a0 = none ∧ len0 = 0 ∧ cap0 = 0 ∧ z0 = []) ∨ ∃ x, a0 = some x ∧ len0 ≤ cap0 ∧ cap0 ≤ maxLen ∧ z0.length = cap0 ∧ (∀ i, i < z0.length → w.cell? (x.add i) = some (.int .u8 (z0.getD i 0))) ∧ ∀ n ∈ z0, (Lit.int .u8 n).wf = true) (y0 : len0 * 1 ≤ 140737488351232) (w1 : (a1 = none ∧ len1 = 0 ∧ cap1 = 0 ∧ z1 = []) ∨ ∃ x, a1 = some x ∧ len1 ≤ cap1 ∧ cap1 ≤ maxLen ∧ z1.length = cap1 ∧ (∀ i, i < z1.length → w.cell? (x.add i) = some (.int .u8 (z1.getD i 0))) ∧ ∀ n ∈ z1, (Lit.int .u8 n).wf = true) (y1 : len1 * 1 ≤ 140737488351232) :
    Calls Try.prog 3 #[.slice a0 len0 cap0, .slice a1 len1 cap1] w fun e w' => e = .returned (.bool true) ∧ Below w.heap.size w w' := by
  obtain ⟨l0, rfl, hr0, hm0, hw0, hc0⟩ := ReadsInt.ofRowC w0
  obtain ⟨l1, rfl, hr1, hm1, hw1, hc1⟩ := ReadsInt.ofRowC w1
  obtain ⟨k, h⟩ := P l0 l1 hm0 y0 hw0 hm1 y1 hw1
  refine (laws_FnWalshBack.calls k _ _ l0 _ _ l1 true w (Kd.C_of_reads (d := (0 : Int)) (h1 := fun _ => rfl) hr0) hc0 (Kd.C_of_reads (d := (0 : Int)) (h1 := fun _ => rfl) hr1) hc1 h).mono ?_
  rintro e w' ⟨rfl, hd⟩
  exact ⟨rfl, hd⟩

end Go.Proofs.Ytladpdeneiaaeaa.PAll
