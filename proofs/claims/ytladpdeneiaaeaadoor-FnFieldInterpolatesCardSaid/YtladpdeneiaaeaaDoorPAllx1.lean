-- Written by a program of this session (wip/tools)
import Derived.Test.YtladpdeneiaaeaaDoorPAllx0
import Derived.Test.YtladpdeneiaaeaaDoorExtGal
namespace Go.Proofs.YtladpdeneiaaeaaDoor.PAll
open Go.RowKit Go.Proofs.YtladpdeneiaaeaaDoorW.PrintWords Go.Proofs.YtladpdeneiaaeaaDoorW.PrintLast Go.Proofs.YtladpdeneiaaeaaDoorW.PrintMore
attribute [local go_sem] max2_int min2_int max_two min_two max_three min_three max_four min_four   -- for this text's walks alone
set_option linter.unusedVariables false
set_option linter.unusedSimpArgs false

/-! ### reedsolomon_DoorMultiply: function 27 -/
def reedsolomon_DoorMultiply.f (a0 : Int) (a1 : Int) : Option (Int) := (reedsolomon_galMultiply.f a0 a1).bind fun t101 => (some t101)
set_option maxHeartbeats 8000000 in
set_option maxRecDepth 100000 in
theorem reedsolomon_DoorMultiply.calls (a0 : Int) (a1 : Int) (r : Int) (w : World) (hG : Glob w) (h : reedsolomon_DoorMultiply.f a0 a1 = some r) :
    Calls Tryd.prog 27 #[.int .u8 a0, .int .u8 a1] w fun e w' => e = .returned (.int .u8 r) ∧ Drawn0 w w' := by
  have H : ((reedsolomon_galMultiply.f a0 a1).bind fun t101 => (some t101)) = some r := h
  clear h
  replace H := Option.bind_eq_some_iff.mp H
  obtain ⟨t101, A30, H⟩ := H
  replace H : (some t101) = some r := H
  have A3 := Aside0.mk A30
  clear A30
  obtain rfl := Option.some.inj H
  go_enter Tryd.func27, Tryd.ntmps27
  go_wp2_with (first | ((with_reducible refine gate_callee (f := 44) rfl ?_); refine goesL_ (some 7) rfl rfl Tryd.func44 (by kernel_rfl) rfl #[.int .u8 a0, .int .u8 a1] rfl (by (try simp only [List.map_toArray, List.map_cons, List.map_nil]); first | done | rfl | (simp only [List.length_drop, List.length_take]; rfl)) ?_; (with_reducible refine (reedsolomon_galMultiply.calls a0 a1 t101 _ ?side1 A3.out).mono ?_); (case side1 => repeat (first | exact hG | apply Glob.drewN | apply Glob.drew)); rintro e w' ⟨rfl, ⟨nd, rfl⟩⟩; refine ⟨_, rfl, ?_⟩))
  go_ret
  exact ⟨by first | rfl | (simp; done) | (simp [*]; done), by repeat (first | exact Drawn0.refl _ | apply Drawn0.step)⟩

/-! ### impl_Mul: function 9 -/
def impl_Mul.f (a0 : Int) (a1 : Int) : Option (Int) := (reedsolomon_DoorMultiply.f a0 a1).bind fun t102 => (some t102)
set_option maxHeartbeats 8000000 in
set_option maxRecDepth 100000 in
theorem impl_Mul.calls (a0 : Int) (a1 : Int) (r : Int) (w : World) (hG : Glob w) (h : impl_Mul.f a0 a1 = some r) :
    Calls Tryd.prog 9 #[.int .u8 a0, .int .u8 a1] w fun e w' => e = .returned (.int .u8 r) ∧ Drawn0 w w' := by
  have H : ((reedsolomon_DoorMultiply.f a0 a1).bind fun t102 => (some t102)) = some r := h
  clear h
  replace H := Option.bind_eq_some_iff.mp H
  obtain ⟨t102, A30, H⟩ := H
  replace H : (some t102) = some r := H
  have A3 := Aside0.mk A30
  clear A30
  obtain rfl := Option.some.inj H
  go_enter Tryd.func9, Tryd.ntmps9
  go_wp2_with (first | ((with_reducible refine gate_callee (f := 27) rfl ?_); refine goesL_ (some 7) rfl rfl Tryd.func27 (by kernel_rfl) rfl #[.int .u8 a0, .int .u8 a1] rfl (by (try simp only [List.map_toArray, List.map_cons, List.map_nil]); first | done | rfl | (simp only [List.length_drop, List.length_take]; rfl)) ?_; (with_reducible refine (reedsolomon_DoorMultiply.calls a0 a1 t102 _ ?side1 A3.out).mono ?_); (case side1 => repeat (first | exact hG | apply Glob.drewN | apply Glob.drew)); rintro e w' ⟨rfl, ⟨nd, rfl⟩⟩; refine ⟨_, rfl, ?_⟩))
  go_ret
  exact ⟨by first | rfl | (simp; done) | (simp [*]; done), by repeat (first | exact Drawn0.refl _ | apply Drawn0.step)⟩

/-! ### laws_FnFieldSquares_1: function 8 -/
def laws_FnFieldSquares_1.f (a0 : Int) : Option (Int) := (impl_Mul.f a0 a0).bind fun t103 => (some t103)
set_option maxHeartbeats 8000000 in
set_option maxRecDepth 100000 in
theorem laws_FnFieldSquares_1.calls (a0 : Int) (r : Int) (w : World) (hG : Glob w) (h : laws_FnFieldSquares_1.f a0 = some r) :
    Calls Tryd.prog 8 #[.int .u8 a0] w fun e w' => e = .returned (.int .u8 r) ∧ Drawn0 w w' := by
  have H : ((impl_Mul.f a0 a0).bind fun t103 => (some t103)) = some r := h
  clear h
  replace H := Option.bind_eq_some_iff.mp H
  obtain ⟨t103, A20, H⟩ := H
  replace H : (some t103) = some r := H
  have A2 := Aside0.mk A20
  clear A20
  obtain rfl := Option.some.inj H
  go_enter Tryd.func8, Tryd.ntmps8
  go_wp2_with (first | ((with_reducible refine gate_callee (f := 9) rfl ?_); refine goesL_ (some 5) rfl rfl Tryd.func9 (by kernel_rfl) rfl #[.int .u8 a0, .int .u8 a0] rfl (by (try simp only [List.map_toArray, List.map_cons, List.map_nil]); first | done | rfl | (simp only [List.length_drop, List.length_take]; rfl)) ?_; (with_reducible refine (impl_Mul.calls a0 a0 t103 _ ?side1 A2.out).mono ?_); (case side1 => repeat (first | exact hG | apply Glob.drewN | apply Glob.drew)); rintro e w' ⟨rfl, ⟨nd, rfl⟩⟩; refine ⟨_, rfl, ?_⟩))
  go_ret
  exact ⟨by first | rfl | (simp; done) | (simp [*]; done), by repeat (first | exact Drawn0.refl _ | apply Drawn0.step)⟩

/-! ### reedsolomon_galAdd: function 45 -/
def reedsolomon_galAdd.f (a0 : Int) (a1 : Int) : Option (Int) := some (Go.bits .xor .u8 a0 a1)
set_option maxHeartbeats 8000000 in
set_option maxRecDepth 100000 in
theorem reedsolomon_galAdd.calls (a0 : Int) (a1 : Int) (r : Int) (w : World) (h : reedsolomon_galAdd.f a0 a1 = some r) :
    Calls Tryd.prog 45 #[.int .u8 a0, .int .u8 a1] w fun e w' => e = .returned (.int .u8 r) ∧ Drawn0 w w' := by
  have H : (some (Go.bits .xor .u8 a0 a1)) = some r := h
  clear h
  obtain rfl := Option.some.inj H
  go_enter Tryd.func45, Tryd.ntmps45
  go_wp2
  go_ret
  exact ⟨by first | rfl | (simp; done) | (simp [*]; done), by repeat (first | exact Drawn0.refl _ | apply Drawn0.step)⟩

/-! ### reedsolomon_DoorAdd: function 28 -/
def reedsolomon_DoorAdd.f (a0 : Int) (a1 : Int) : Option (Int) := (reedsolomon_galAdd.f a0 a1).bind fun t104 => (some t104)
set_option maxHeartbeats 8000000 in
set_option maxRecDepth 100000 in
theorem reedsolomon_DoorAdd.calls (a0 : Int) (a1 : Int) (r : Int) (w : World) (h : reedsolomon_DoorAdd.f a0 a1 = some r) :
    Calls Tryd.prog 28 #[.int .u8 a0, .int .u8 a1] w fun e w' => e = .returned (.int .u8 r) ∧ Drawn0 w w' := by
  have H : ((reedsolomon_galAdd.f a0 a1).bind fun t104 => (some t104)) = some r := h
  clear h
  replace H := Option.bind_eq_some_iff.mp H
  obtain ⟨t104, A30, H⟩ := H
  replace H : (some t104) = some r := H
  have A3 := Aside0.mk A30
  clear A30
  obtain rfl := Option.some.inj H
  go_enter Tryd.func28, Tryd.ntmps28
  go_wp2_with (first | ((with_reducible refine gate_callee (f := 45) rfl ?_); refine goesL_ (some 7) rfl rfl Tryd.func45 (by kernel_rfl) rfl #[.int .u8 a0, .int .u8 a1] rfl (by (try simp only [List.map_toArray, List.map_cons, List.map_nil]); first | done | rfl | (simp only [List.length_drop, List.length_take]; rfl)) ?_; (with_reducible refine (reedsolomon_galAdd.calls a0 a1 t104 _ A3.out).mono ?_); rintro e w' ⟨rfl, ⟨nd, rfl⟩⟩; refine ⟨_, rfl, ?_⟩))
  go_ret
  exact ⟨by first | rfl | (simp; done) | (simp [*]; done), by repeat (first | exact Drawn0.refl _ | apply Drawn0.step)⟩

/-! ### impl_Add: function 10 -/
def impl_Add.f (a0 : Int) (a1 : Int) : Option (Int) := (reedsolomon_DoorAdd.f a0 a1).bind fun t105 => (some t105)
set_option maxHeartbeats 8000000 in
set_option maxRecDepth 100000 in
theorem impl_Add.calls (a0 : Int) (a1 : Int) (r : Int) (w : World) (h : impl_Add.f a0 a1 = some r) :
    Calls Tryd.prog 10 #[.int .u8 a0, .int .u8 a1] w fun e w' => e = .returned (.int .u8 r) ∧ Drawn0 w w' := by
  have H : ((reedsolomon_DoorAdd.f a0 a1).bind fun t105 => (some t105)) = some r := h
  clear h
  replace H := Option.bind_eq_some_iff.mp H
  obtain ⟨t105, A30, H⟩ := H
  replace H : (some t105) = some r := H
  have A3 := Aside0.mk A30
  clear A30
  obtain rfl := Option.some.inj H
  go_enter Tryd.func10, Tryd.ntmps10
  go_wp2_with (first | ((with_reducible refine gate_callee (f := 28) rfl ?_); refine goesL_ (some 7) rfl rfl Tryd.func28 (by kernel_rfl) rfl #[.int .u8 a0, .int .u8 a1] rfl (by (try simp only [List.map_toArray, List.map_cons, List.map_nil]); first | done | rfl | (simp only [List.length_drop, List.length_take]; rfl)) ?_; (with_reducible refine (reedsolomon_DoorAdd.calls a0 a1 t105 _ A3.out).mono ?_); rintro e w' ⟨rfl, ⟨nd, rfl⟩⟩; refine ⟨_, rfl, ?_⟩))
  go_ret
  exact ⟨by first | rfl | (simp; done) | (simp [*]; done), by repeat (first | exact Drawn0.refl _ | apply Drawn0.step)⟩

/-! ### laws_FnFieldSquares: function 3 -/
def laws_FnFieldSquares.l0 : Nat → Int → Int → Int → Int → Option (Bool)
  | 0, _, _, _, _ => none
  | k + 1, x0, x1, x6, x7 => if x7 < 8 then ((laws_FnFieldSquares_1.f x6).bind fun t106 => (laws_FnFieldSquares.l0 k x0 x1 t106 (wrap64 (x7 + 1)))) else ((impl_Add.f x0 x1).bind fun t107 => ((laws_FnFieldSquares_1.f t107).bind fun t108 => ((laws_FnFieldSquares_1.f x0).bind fun t109 => ((laws_FnFieldSquares_1.f x1).bind fun t110 => ((impl_Add.f t109 t110).bind fun t111 => (if t108 = t111 then (if x6 = x0 then ((laws_FnFieldSquares_1.f x0).bind fun t112 => ((laws_FnFieldSquares_1.f x1).bind fun t113 => (some ((t112 == t113) == (x0 == x1))))) else (none)) else (none)))))))
def laws_FnFieldSquares.f (k : Nat) (a0 : Int) (a1 : Int) : Option (Bool) := laws_FnFieldSquares.l0 k a0 a1 a0 0
theorem laws_FnFieldSquares.mono_l : ∀ k, (∀ y0 y1 y2 y3, LeO (laws_FnFieldSquares.l0 k y0 y1 y2 y3) (laws_FnFieldSquares.l0 (k + 1) y0 y1 y2 y3))
  | 0 => fun _ _ _ _ r h => by simp [laws_FnFieldSquares.l0] at h
  | k + 1 => by
    have ih0 := laws_FnFieldSquares.mono_l k
    · intro y0 y1 y2 y3
      unfold laws_FnFieldSquares.l0
      repeat' first
      | (with_reducible exact ih0 _ _ _ _)
      | (with_reducible exact LeO.refl _)
      | (with_reducible exact LeO.none _)
      | (with_reducible refine LeO.ite ?_ ?_)
      | (with_reducible refine LeO.bind ?_ (fun _ => ?_))
      | exact ih0 _ _ _ _
      | exact LeO.none _
      | refine LeO.ite ?_ ?_
      | refine LeO.bind ?_ (fun _ => ?_)
theorem laws_FnFieldSquares.mono : ∀ a0 a1 k, LeO (laws_FnFieldSquares.f k a0 a1) (laws_FnFieldSquares.f (k + 1) a0 a1) := by
  intro a0 a1 k
  have ih0 := laws_FnFieldSquares.mono_l k
  unfold laws_FnFieldSquares.f
  repeat' first
      | (with_reducible exact ih0 _ _ _ _)
      | (with_reducible exact LeO.refl _)
      | (with_reducible exact LeO.none _)
      | (with_reducible refine LeO.ite ?_ ?_)
      | (with_reducible refine LeO.bind ?_ (fun _ => ?_))
      | exact ih0 _ _ _ _
      | exact LeO.none _
      | refine LeO.ite ?_ ?_
      | refine LeO.bind ?_ (fun _ => ?_)
set_option maxHeartbeats 8000000 in
set_option maxRecDepth 100000 in
theorem laws_FnFieldSquares.calls (k : Nat) (a0 : Int) (a1 : Int) (r : Bool) (w : World) (hG : Glob w) (h : laws_FnFieldSquares.f k a0 a1 = some r) :
    Calls Tryd.prog 3 #[.int .u8 a0, .int .u8 a1] w fun e w' => e = .returned (.bool r) ∧ Drawn0 w w' := by
  have H : (laws_FnFieldSquares.l0 k a0 a1 a0 0) = some r := h
  clear h
  have H' := Aside0.mk H
  clear H
  go_enter Tryd.func3, Tryd.ntmps3
  go_wp2
  try simp only [Act.put, List.setIfInBounds_toArray, List.set_cons_zero, List.set_cons_succ]
  go_loopg [6, 7] k (fun kq v6 v7 w' => ∃ (x6_1 : Int) (x7_1 : Int), v6 = .int .u8 x6_1 ∧ v7 = .int .i64 x7_1 ∧ Aside0 (laws_FnFieldSquares.l0 kq a0 a1 x6_1 x7_1 = some r) ∧ Aside0 (kq ≤ k) ∧ Drawn0 w w')
  case atStart => exact ⟨(a0), (0), (by first | rfl | (simp; done) | (simp [*]; done)), (by first | rfl | (simp; done) | (simp [*]; done)), H', ⟨Nat.le_refl _⟩, by repeat (first | exact Drawn0.refl _ | apply Drawn0.step)⟩
  case round =>
    clear H'
    try clear p2
    obtain ⟨x6_1, x7_1, rfl, rfl, HA, HK1, ⟨m1, rfl⟩⟩ := hrel
    cases gk with
    | zero => exact absurd HA.out (by simp [laws_FnFieldSquares.l0])
    | succ k1 =>
      have H := HA.out
      clear HA
      simp only [laws_FnFieldSquares.l0] at H
      by_cases c3 : x7_1 < 8
      · rw [if_pos c3] at H
        have c3b0 : decide (x7_1 < 8) = true := decide_eq_true c3
        clear c3
        replace H := Option.bind_eq_some_iff.mp H
        obtain ⟨t106, A40, H⟩ := H
        replace H : (laws_FnFieldSquares.l0 k1 a0 a1 t106 (wrap64 (x7_1 + 1))) = some r := H
        have A4 := Aside0.mk A40
        clear A40
        have H' := Aside0.mk H
        clear H
        go_wp2_with (first | (go_at_call 8; (with_reducible refine (laws_FnFieldSquares_1.calls x6_1 t106 _ ?side1 A4.out).mono ?_); (case side1 => repeat (first | exact hG | apply Glob.drewN | apply Glob.drew)); rintro e w' ⟨rfl, ⟨nd, rfl⟩⟩))
        go_roundg k1
        case measure => have := HK1.out; omega
        case rel => exact ⟨(t106), (wrap64 (x7_1 + 1)), (by first | rfl | (simp; done) | (simp [*]; done)), (by first | rfl | (simp; done) | (simp [*]; done)), H', ⟨by have := HK1.out; omega⟩, by repeat (first | exact Drawn0.refl _ | apply Drawn0.step)⟩
      · rw [if_neg c3] at H
        have c3b0 : decide (x7_1 < 8) = false := decide_eq_false c3
        clear c3
        replace H := Option.bind_eq_some_iff.mp H
        obtain ⟨t107, A50, H⟩ := H
        replace H : ((laws_FnFieldSquares_1.f t107).bind fun t108 => ((laws_FnFieldSquares_1.f a0).bind fun t109 => ((laws_FnFieldSquares_1.f a1).bind fun t110 => ((impl_Add.f t109 t110).bind fun t111 => (if t108 = t111 then (if x6_1 = a0 then ((laws_FnFieldSquares_1.f a0).bind fun t112 => ((laws_FnFieldSquares_1.f a1).bind fun t113 => (some ((t112 == t113) == (a0 == a1))))) else (none)) else (none)))))) = some r := H
        have A5 := Aside0.mk A50
        clear A50
        replace H := Option.bind_eq_some_iff.mp H
        obtain ⟨t108, A60, H⟩ := H
        replace H : ((laws_FnFieldSquares_1.f a0).bind fun t109 => ((laws_FnFieldSquares_1.f a1).bind fun t110 => ((impl_Add.f t109 t110).bind fun t111 => (if t108 = t111 then (if x6_1 = a0 then ((laws_FnFieldSquares_1.f a0).bind fun t112 => ((laws_FnFieldSquares_1.f a1).bind fun t113 => (some ((t112 == t113) == (a0 == a1))))) else (none)) else (none))))) = some r := H
        have A6 := Aside0.mk A60
        clear A60
        replace H := Option.bind_eq_some_iff.mp H
        obtain ⟨t109, A70, H⟩ := H
        replace H : ((laws_FnFieldSquares_1.f a1).bind fun t110 => ((impl_Add.f t109 t110).bind fun t111 => (if t108 = t111 then (if x6_1 = a0 then ((laws_FnFieldSquares_1.f a0).bind fun t112 => ((laws_FnFieldSquares_1.f a1).bind fun t113 => (some ((t112 == t113) == (a0 == a1))))) else (none)) else (none)))) = some r := H
        have A7 := Aside0.mk A70
        clear A70
        replace H := Option.bind_eq_some_iff.mp H
        obtain ⟨t110, A80, H⟩ := H
        replace H : ((impl_Add.f t109 t110).bind fun t111 => (if t108 = t111 then (if x6_1 = a0 then ((laws_FnFieldSquares_1.f a0).bind fun t112 => ((laws_FnFieldSquares_1.f a1).bind fun t113 => (some ((t112 == t113) == (a0 == a1))))) else (none)) else (none))) = some r := H
        have A8 := Aside0.mk A80
        clear A80
        replace H := Option.bind_eq_some_iff.mp H
        obtain ⟨t111, A90, H⟩ := H
        replace H : (if t108 = t111 then (if x6_1 = a0 then ((laws_FnFieldSquares_1.f a0).bind fun t112 => ((laws_FnFieldSquares_1.f a1).bind fun t113 => (some ((t112 == t113) == (a0 == a1))))) else (none)) else (none)) = some r := H
        have A9 := Aside0.mk A90
        clear A90
        by_cases c10 : t108 = t111
        · rw [if_pos c10] at H
          have c10b0 : (t108 == t111) = true := beq_iff_eq.mpr c10
          have c10b1 : (t108 != t111) = false := bne_eq_false_iff_eq.mpr c10
          clear c10
          by_cases c11 : x6_1 = a0
          · rw [if_pos c11] at H
            have c11b0 : (x6_1 == a0) = true := beq_iff_eq.mpr c11
            have c11b1 : (x6_1 != a0) = false := bne_eq_false_iff_eq.mpr c11
            clear c11
            replace H := Option.bind_eq_some_iff.mp H
            obtain ⟨t112, A120, H⟩ := H
            replace H : ((laws_FnFieldSquares_1.f a1).bind fun t113 => (some ((t112 == t113) == (a0 == a1)))) = some r := H
            have A12 := Aside0.mk A120
            clear A120
            have e112 : t112 = t109 := Option.some.inj (A12.out.symm.trans A7.out)
            replace H := Option.bind_eq_some_iff.mp H
            obtain ⟨t113, A130, H⟩ := H
            replace H : (some ((t112 == t113) == (a0 == a1))) = some r := H
            have A13 := Aside0.mk A130
            clear A130
            have e113 : t113 = t110 := Option.some.inj (A13.out.symm.trans A8.out)
            obtain rfl := Option.some.inj H
            go_wp2_with (first | ((with_reducible refine gate_callee (f := 10) rfl ?_); refine goesL_ (some 19) rfl rfl Tryd.func10 (by kernel_rfl) rfl #[.int .u8 a0, .int .u8 a1] rfl (by (try simp only [List.map_toArray, List.map_cons, List.map_nil]); first | done | rfl | (simp only [List.length_drop, List.length_take]; rfl)) ?_; (with_reducible refine (impl_Add.calls a0 a1 t107 _ A5.out).mono ?_); rintro e w' ⟨rfl, ⟨nd, rfl⟩⟩; refine ⟨_, rfl, ?_⟩) | (go_at_call 8; (with_reducible refine (laws_FnFieldSquares_1.calls t107 t108 _ ?side1 A6.out).mono ?_); (case side1 => repeat (first | exact hG | apply Glob.drewN | apply Glob.drew)); rintro e w' ⟨rfl, ⟨nd, rfl⟩⟩) | (go_at_call 8; (with_reducible refine (laws_FnFieldSquares_1.calls a0 t109 _ ?side1 A7.out).mono ?_); (case side1 => repeat (first | exact hG | apply Glob.drewN | apply Glob.drew)); rintro e w' ⟨rfl, ⟨nd, rfl⟩⟩) | (go_at_call 8; (with_reducible refine (laws_FnFieldSquares_1.calls a1 t110 _ ?side1 A8.out).mono ?_); (case side1 => repeat (first | exact hG | apply Glob.drewN | apply Glob.drew)); rintro e w' ⟨rfl, ⟨nd, rfl⟩⟩) | ((with_reducible refine gate_callee (f := 10) rfl ?_); refine goesL_ (some 27) rfl rfl Tryd.func10 (by kernel_rfl) rfl #[.int .u8 t109, .int .u8 t110] rfl (by (try simp only [List.map_toArray, List.map_cons, List.map_nil]); first | done | rfl | (simp only [List.length_drop, List.length_take]; rfl)) ?_; (with_reducible refine (impl_Add.calls t109 t110 t111 _ A9.out).mono ?_); rintro e w' ⟨rfl, ⟨nd, rfl⟩⟩; refine ⟨_, rfl, ?_⟩) | (go_at_call 8; (with_reducible refine (laws_FnFieldSquares_1.calls a0 t112 _ ?side1 A12.out).mono ?_); (case side1 => repeat (first | exact hG | apply Glob.drewN | apply Glob.drew)); rintro e w' ⟨rfl, ⟨nd, rfl⟩⟩) | (go_at_call 8; (with_reducible refine (laws_FnFieldSquares_1.calls a1 t113 _ ?side1 A13.out).mono ?_); (case side1 => repeat (first | exact hG | apply Glob.drewN | apply Glob.drew)); rintro e w' ⟨rfl, ⟨nd, rfl⟩⟩))
            go_ret
            exact ⟨by first | rfl | (simp; done) | (simp [*]; done), by repeat (first | exact Drawn0.refl _ | apply Drawn0.step)⟩
          · rw [if_neg c11] at H
            exact absurd H (by simp)
        · rw [if_neg c10] at H
          exact absurd H (by simp)

/-- THE ONE PURE STATEMENT of laws_FnFieldSquares: yours. -/
def laws_FnFieldSquares.Pure : Prop := ∀ (a0 : Int) (a1 : Int), (Lit.int .u8 a0).wf = true → (Lit.int .u8 a1).wf = true → ∃ k, laws_FnFieldSquares.f k a0 a1 = some true
theorem laws_FnFieldSquares.walk (P : laws_FnFieldSquares.Pure) (a0 : Int) (a1 : Int) (w : World) (hG : Glob w) (w0 : (Lit.int .u8 a0).wf = true) (w1 : (Lit.int .u8 a1).wf = true) :
    Calls Tryd.prog 3 #[.int .u8 a0, .int .u8 a1] w fun e w' => e = .returned (.bool true) ∧ Below w.heap.size w w' := by
  obtain ⟨k, h⟩ := P a0 a1 w0 w1
  refine (laws_FnFieldSquares.calls k a0 a1 true w hG h).mono ?_
  rintro e w' ⟨rfl, hd⟩
  exact ⟨rfl, hd.below⟩

end Go.Proofs.YtladpdeneiaaeaaDoor.PAll
