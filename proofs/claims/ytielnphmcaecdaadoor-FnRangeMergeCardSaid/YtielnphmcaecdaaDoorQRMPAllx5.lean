-- Written by a program of this session (wip/tools)
import Derived.Test.YtielnphmcaecdaaDoorQRMTreeMem
import Derived.Test.YtielnphmcaecdaaDoorQRMExtTz
import Derived.Test.YtielnphmcaecdaaDoorQRMExtRangeA
namespace Go.Proofs.YtielnphmcaecdaaDoor.PAll
open Go.RowKit Go.Proofs.YtielnphmcaecdaaDoorW.PrintWords Go.Proofs.YtielnphmcaecdaaDoorW.PrintLast Go.Proofs.YtielnphmcaecdaaDoorW.PrintMore
attribute [local go_sem] max2_int min2_int max_two min_two max_three min_three max_four min_four   -- for this text's walks alone
set_option linter.unusedVariables false
set_option linter.unusedSimpArgs false
def proof_decompInclProof.f (k : Nat) (a0 : Int) (a1 : Int) : Option (Int × Int) := (proof_innerProofSize.f k a0 a1).bind fun t207 => (if 0 ≤ (IntKind.u64.wrap (t207)) then ((bits_OnesCount64.f (shr .u64 a0 (IntKind.u64.wrap (t207)))).bind fun t208 => (some (t207, t208))) else (none))
theorem proof_decompInclProof.mono : ∀ a0 a1 k, LeO (proof_decompInclProof.f k a0 a1) (proof_decompInclProof.f (k + 1) a0 a1) := by
  intro a0 a1 k
  unfold proof_decompInclProof.f
  repeat' first
      | (with_reducible exact proof_innerProofSize.mono _ _ _)
      | (with_reducible exact LeO.refl _)
      | (with_reducible exact LeO.none _)
      | (with_reducible refine LeO.ite ?_ ?_)
      | (with_reducible refine LeO.bind ?_ (fun _ => ?_))
      | exact proof_innerProofSize.mono _ _ _
      | exact LeO.none _
      | refine LeO.ite ?_ ?_
      | refine LeO.bind ?_ (fun _ => ?_)
def compact_getMergePath.f (k : Nat) (a0 : Int) (a1 : Int) (a2 : Int) : Option (Int × Int) := (bits_TrailingZeros64.f a1).bind fun t209 => (if a0 = 0 then ((bits_Len64.f k (Go.bits .xor .u64 (IntKind.u64.wrap (a1 - 1)) a2)).bind fun t210 => (if t210 < 64 then (some (IntKind.u64.wrap (t209), IntKind.u64.wrap (wrap64 (t210 - 1)))) else (some (IntKind.u64.wrap (t209), 64 - 1)))) else ((bits_Len64.f k (Go.bits .xor .u64 a1 (IntKind.u64.wrap (a0 - 1)))).bind fun t211 => ((bits_Len64.f k (Go.bits .xor .u64 (IntKind.u64.wrap (a1 - 1)) a2)).bind fun t212 => (if t212 < t211 then (some (IntKind.u64.wrap (t209), IntKind.u64.wrap (wrap64 (t212 - 1)))) else (some (IntKind.u64.wrap (t209), IntKind.u64.wrap (wrap64 (t211 - 1))))))))
theorem compact_getMergePath.mono : ∀ a0 a1 a2 k, LeO (compact_getMergePath.f k a0 a1 a2) (compact_getMergePath.f (k + 1) a0 a1 a2) := by
  intro a0 a1 a2 k
  unfold compact_getMergePath.f
  repeat' first
      | (with_reducible exact bits_Len64.mono _ _)
      | (with_reducible exact LeO.refl _)
      | (with_reducible exact LeO.none _)
      | (with_reducible refine LeO.ite ?_ ?_)
      | (with_reducible refine LeO.bind ?_ (fun _ => ?_))
      | exact bits_Len64.mono _ _
      | exact LeO.none _
      | refine LeO.ite ?_ ?_
      | refine LeO.bind ?_ (fun _ => ?_)
set_option maxHeartbeats 8000000 in
set_option maxRecDepth 100000 in
theorem compact_getMergePath.calls (k : Nat) (a0 : Int) (a1 : Int) (a2 : Int) (r1 : Int) (r2 : Int) (w : World) (hG : Glob w) (h : compact_getMergePath.f k a0 a1 a2 = some (r1, r2)) :
    Calls Tryd.prog 111 #[.int .u64 a0, .int .u64 a1, .int .u64 a2] w fun e w' => e = .returned (.tuple #[.int .u64 r1, .int .u64 r2]) ∧ Drawn0 w w' := by
  have H : ((bits_TrailingZeros64.f a1).bind fun t209 => (if a0 = 0 then ((bits_Len64.f k (Go.bits .xor .u64 (IntKind.u64.wrap (a1 - 1)) a2)).bind fun t210 => (if t210 < 64 then (some (IntKind.u64.wrap (t209), IntKind.u64.wrap (wrap64 (t210 - 1)))) else (some (IntKind.u64.wrap (t209), 64 - 1)))) else ((bits_Len64.f k (Go.bits .xor .u64 a1 (IntKind.u64.wrap (a0 - 1)))).bind fun t211 => ((bits_Len64.f k (Go.bits .xor .u64 (IntKind.u64.wrap (a1 - 1)) a2)).bind fun t212 => (if t212 < t211 then (some (IntKind.u64.wrap (t209), IntKind.u64.wrap (wrap64 (t212 - 1)))) else (some (IntKind.u64.wrap (t209), IntKind.u64.wrap (wrap64 (t211 - 1))))))))) = some (r1, r2) := h
  clear h
  replace H := Option.bind_eq_some_iff.mp H
  obtain ⟨t209, A40, H⟩ := H
  replace H : (if a0 = 0 then ((bits_Len64.f k (Go.bits .xor .u64 (IntKind.u64.wrap (a1 - 1)) a2)).bind fun t210 => (if t210 < 64 then (some (IntKind.u64.wrap (t209), IntKind.u64.wrap (wrap64 (t210 - 1)))) else (some (IntKind.u64.wrap (t209), 64 - 1)))) else ((bits_Len64.f k (Go.bits .xor .u64 a1 (IntKind.u64.wrap (a0 - 1)))).bind fun t211 => ((bits_Len64.f k (Go.bits .xor .u64 (IntKind.u64.wrap (a1 - 1)) a2)).bind fun t212 => (if t212 < t211 then (some (IntKind.u64.wrap (t209), IntKind.u64.wrap (wrap64 (t212 - 1)))) else (some (IntKind.u64.wrap (t209), IntKind.u64.wrap (wrap64 (t211 - 1)))))))) = some (r1, r2) := H
  have A4 := Aside0.mk A40
  clear A40
  by_cases c5 : a0 = 0
  · rw [if_pos c5] at H
    have c5b0 : (a0 == 0) = true := beq_iff_eq.mpr c5
    have c5b1 : (a0 != 0) = false := bne_eq_false_iff_eq.mpr c5
    clear c5
    replace H := Option.bind_eq_some_iff.mp H
    obtain ⟨t210, A60, H⟩ := H
    replace H : (if t210 < 64 then (some (IntKind.u64.wrap (t209), IntKind.u64.wrap (wrap64 (t210 - 1)))) else (some (IntKind.u64.wrap (t209), 64 - 1))) = some (r1, r2) := H
    have A6 := Aside0.mk A60
    clear A60
    by_cases c7 : t210 < 64
    · rw [if_pos c7] at H
      have c7b0 : decide (t210 < 64) = true := decide_eq_true c7
      clear c7
      simp only [Option.some.injEq, Prod.mk.injEq] at H
      obtain ⟨rfl, rfl⟩ := H
      go_enter Tryd.func111, Tryd.ntmps111
      go_wp2_with (first | ((with_reducible refine gate_callee (f := 95) rfl ?_); refine goesL_ (some 12) rfl rfl Tryd.func95 (by kernel_rfl) rfl #[.int .u64 a1] rfl (by (try simp only [List.map_toArray, List.map_cons, List.map_nil]); first | done | rfl | (simp only [List.length_drop, List.length_take]; rfl)) ?_; (with_reducible refine (bits_TrailingZeros64.calls a1 t209 _ ?side1 A4.out).mono ?_); (case side1 => repeat (first | exact hG | apply Glob.drewN | apply Glob.drew)); rintro e w' ⟨rfl, ⟨nd, rfl⟩⟩; refine ⟨_, rfl, ?_⟩) | ((with_reducible refine gate_callee (f := 109) rfl ?_); refine goesL_ (some 24) rfl rfl Tryd.func109 (by kernel_rfl) rfl #[.int .u64 (Go.bits .xor .u64 (IntKind.u64.wrap (a1 - 1)) a2)] rfl (by (try simp only [List.map_toArray, List.map_cons, List.map_nil]); first | done | rfl | (simp only [List.length_drop, List.length_take]; rfl)) ?_; (with_reducible refine (bits_Len64.calls k (Go.bits .xor .u64 (IntKind.u64.wrap (a1 - 1)) a2) t210 _ A6.out).mono ?_); rintro e w' ⟨rfl, ⟨nd, rfl⟩⟩; refine ⟨_, rfl, ?_⟩))
      go_ret2
      exact ⟨by first | rfl | (simp; done) | (simp [*]; done), by repeat (first | exact Drawn0.refl _ | apply Drawn0.step)⟩
    · rw [if_neg c7] at H
      have c7b0 : decide (t210 < 64) = false := decide_eq_false c7
      clear c7
      simp only [Option.some.injEq, Prod.mk.injEq] at H
      obtain ⟨rfl, rfl⟩ := H
      go_enter Tryd.func111, Tryd.ntmps111
      go_wp2_with (first | ((with_reducible refine gate_callee (f := 95) rfl ?_); refine goesL_ (some 12) rfl rfl Tryd.func95 (by kernel_rfl) rfl #[.int .u64 a1] rfl (by (try simp only [List.map_toArray, List.map_cons, List.map_nil]); first | done | rfl | (simp only [List.length_drop, List.length_take]; rfl)) ?_; (with_reducible refine (bits_TrailingZeros64.calls a1 t209 _ ?side1 A4.out).mono ?_); (case side1 => repeat (first | exact hG | apply Glob.drewN | apply Glob.drew)); rintro e w' ⟨rfl, ⟨nd, rfl⟩⟩; refine ⟨_, rfl, ?_⟩) | ((with_reducible refine gate_callee (f := 109) rfl ?_); refine goesL_ (some 24) rfl rfl Tryd.func109 (by kernel_rfl) rfl #[.int .u64 (Go.bits .xor .u64 (IntKind.u64.wrap (a1 - 1)) a2)] rfl (by (try simp only [List.map_toArray, List.map_cons, List.map_nil]); first | done | rfl | (simp only [List.length_drop, List.length_take]; rfl)) ?_; (with_reducible refine (bits_Len64.calls k (Go.bits .xor .u64 (IntKind.u64.wrap (a1 - 1)) a2) t210 _ A6.out).mono ?_); rintro e w' ⟨rfl, ⟨nd, rfl⟩⟩; refine ⟨_, rfl, ?_⟩))
      go_ret2
      exact ⟨by first | rfl | (simp; done) | (simp [*]; done), by repeat (first | exact Drawn0.refl _ | apply Drawn0.step)⟩
  · rw [if_neg c5] at H
    have c5b0 : (a0 == 0) = false := beq_eq_false_iff_ne.mpr c5
    have c5b1 : (a0 != 0) = true := bne_iff_ne.mpr c5
    replace H := Option.bind_eq_some_iff.mp H
    obtain ⟨t211, A80, H⟩ := H
    replace H : ((bits_Len64.f k (Go.bits .xor .u64 (IntKind.u64.wrap (a1 - 1)) a2)).bind fun t212 => (if t212 < t211 then (some (IntKind.u64.wrap (t209), IntKind.u64.wrap (wrap64 (t212 - 1)))) else (some (IntKind.u64.wrap (t209), IntKind.u64.wrap (wrap64 (t211 - 1)))))) = some (r1, r2) := H
    have A8 := Aside0.mk A80
    clear A80
    replace H := Option.bind_eq_some_iff.mp H
    obtain ⟨t212, A90, H⟩ := H
    replace H : (if t212 < t211 then (some (IntKind.u64.wrap (t209), IntKind.u64.wrap (wrap64 (t212 - 1)))) else (some (IntKind.u64.wrap (t209), IntKind.u64.wrap (wrap64 (t211 - 1))))) = some (r1, r2) := H
    have A9 := Aside0.mk A90
    clear A90
    by_cases c10 : t212 < t211
    · rw [if_pos c10] at H
      have c10b0 : decide (t212 < t211) = true := decide_eq_true c10
      clear c10
      simp only [Option.some.injEq, Prod.mk.injEq] at H
      obtain ⟨rfl, rfl⟩ := H
      go_enter Tryd.func111, Tryd.ntmps111
      go_wp2_with (first | ((with_reducible refine gate_callee (f := 95) rfl ?_); refine goesL_ (some 12) rfl rfl Tryd.func95 (by kernel_rfl) rfl #[.int .u64 a1] rfl (by (try simp only [List.map_toArray, List.map_cons, List.map_nil]); first | done | rfl | (simp only [List.length_drop, List.length_take]; rfl)) ?_; (with_reducible refine (bits_TrailingZeros64.calls a1 t209 _ ?side1 A4.out).mono ?_); (case side1 => repeat (first | exact hG | apply Glob.drewN | apply Glob.drew)); rintro e w' ⟨rfl, ⟨nd, rfl⟩⟩; refine ⟨_, rfl, ?_⟩) | ((with_reducible refine gate_callee (f := 109) rfl ?_); refine goesL_ (some 19) rfl rfl Tryd.func109 (by kernel_rfl) rfl #[.int .u64 (Go.bits .xor .u64 a1 (IntKind.u64.wrap (a0 - 1)))] rfl (by (try simp only [List.map_toArray, List.map_cons, List.map_nil]); first | done | rfl | (simp only [List.length_drop, List.length_take]; rfl)) ?_; (with_reducible refine (bits_Len64.calls k (Go.bits .xor .u64 a1 (IntKind.u64.wrap (a0 - 1))) t211 _ A8.out).mono ?_); rintro e w' ⟨rfl, ⟨nd, rfl⟩⟩; refine ⟨_, rfl, ?_⟩) | ((with_reducible refine gate_callee (f := 109) rfl ?_); refine goesL_ (some 24) rfl rfl Tryd.func109 (by kernel_rfl) rfl #[.int .u64 (Go.bits .xor .u64 (IntKind.u64.wrap (a1 - 1)) a2)] rfl (by (try simp only [List.map_toArray, List.map_cons, List.map_nil]); first | done | rfl | (simp only [List.length_drop, List.length_take]; rfl)) ?_; (with_reducible refine (bits_Len64.calls k (Go.bits .xor .u64 (IntKind.u64.wrap (a1 - 1)) a2) t212 _ A9.out).mono ?_); rintro e w' ⟨rfl, ⟨nd, rfl⟩⟩; refine ⟨_, rfl, ?_⟩))
      go_ret2
      exact ⟨by first | rfl | (simp; done) | (simp [*]; done), by repeat (first | exact Drawn0.refl _ | apply Drawn0.step)⟩
    · rw [if_neg c10] at H
      have c10b0 : decide (t212 < t211) = false := decide_eq_false c10
      clear c10
      simp only [Option.some.injEq, Prod.mk.injEq] at H
      obtain ⟨rfl, rfl⟩ := H
      go_enter Tryd.func111, Tryd.ntmps111
      go_wp2_with (first | ((with_reducible refine gate_callee (f := 95) rfl ?_); refine goesL_ (some 12) rfl rfl Tryd.func95 (by kernel_rfl) rfl #[.int .u64 a1] rfl (by (try simp only [List.map_toArray, List.map_cons, List.map_nil]); first | done | rfl | (simp only [List.length_drop, List.length_take]; rfl)) ?_; (with_reducible refine (bits_TrailingZeros64.calls a1 t209 _ ?side1 A4.out).mono ?_); (case side1 => repeat (first | exact hG | apply Glob.drewN | apply Glob.drew)); rintro e w' ⟨rfl, ⟨nd, rfl⟩⟩; refine ⟨_, rfl, ?_⟩) | ((with_reducible refine gate_callee (f := 109) rfl ?_); refine goesL_ (some 19) rfl rfl Tryd.func109 (by kernel_rfl) rfl #[.int .u64 (Go.bits .xor .u64 a1 (IntKind.u64.wrap (a0 - 1)))] rfl (by (try simp only [List.map_toArray, List.map_cons, List.map_nil]); first | done | rfl | (simp only [List.length_drop, List.length_take]; rfl)) ?_; (with_reducible refine (bits_Len64.calls k (Go.bits .xor .u64 a1 (IntKind.u64.wrap (a0 - 1))) t211 _ A8.out).mono ?_); rintro e w' ⟨rfl, ⟨nd, rfl⟩⟩; refine ⟨_, rfl, ?_⟩) | ((with_reducible refine gate_callee (f := 109) rfl ?_); refine goesL_ (some 24) rfl rfl Tryd.func109 (by kernel_rfl) rfl #[.int .u64 (Go.bits .xor .u64 (IntKind.u64.wrap (a1 - 1)) a2)] rfl (by (try simp only [List.map_toArray, List.map_cons, List.map_nil]); first | done | rfl | (simp only [List.length_drop, List.length_take]; rfl)) ?_; (with_reducible refine (bits_Len64.calls k (Go.bits .xor .u64 (IntKind.u64.wrap (a1 - 1)) a2) t212 _ A9.out).mono ?_); rintro e w' ⟨rfl, ⟨nd, rfl⟩⟩; refine ⟨_, rfl, ?_⟩))
      go_ret2
      exact ⟨by first | rfl | (simp; done) | (simp [*]; done), by repeat (first | exact Drawn0.refl _ | apply Drawn0.step)⟩
def bytes_Equal.f (l0 : List Int) (l1 : List Int) : Option (Bool) := some ((strOfNums l0).toList == (strOfNums l1).toList)
def spec_SameText.f (l0 : List Int) (l1 : List Int) : Option (Bool) := some ((strOfNums l0).toList == (strOfNums l1).toList)
def laws_zzFits2.l0 : Nat → List (List Int) → Int → Int → Option (Bool)
  | 0, _, _, _ => none
  | k + 1, x8, x9, x10 => if x10 < x9 then (if 0 ≤ x10 then (if x10 < (x8.length : Int) then (if ((rd_L1 x8 x10).length : Int) > 2147483647 then (some false) else (laws_zzFits2.l0 k x8 x9 (wrap64 (x10 + 1)))) else (none)) else (none)) else (some true)
def laws_zzFits2.f (k : Nat) (l0 : List (List Int)) : Option (Bool) := if (l0.length : Int) > 2147483647 then (some false) else (laws_zzFits2.l0 k l0 (l0.length : Int) 0)
theorem laws_zzFits2.mono_l : ∀ k, (∀ y0 y1 y2, LeO (laws_zzFits2.l0 k y0 y1 y2) (laws_zzFits2.l0 (k + 1) y0 y1 y2))
  | 0 => fun _ _ _ r h => by simp [laws_zzFits2.l0] at h
  | k + 1 => by
    have ih0 := laws_zzFits2.mono_l k
    · intro y0 y1 y2
      unfold laws_zzFits2.l0
      repeat' first
      | (with_reducible exact ih0 _ _ _)
      | (with_reducible exact LeO.refl _)
      | (with_reducible exact LeO.none _)
      | (with_reducible refine LeO.ite ?_ ?_)
      | (with_reducible refine LeO.bind ?_ (fun _ => ?_))
      | exact ih0 _ _ _
      | exact LeO.none _
      | refine LeO.ite ?_ ?_
      | refine LeO.bind ?_ (fun _ => ?_)
theorem laws_zzFits2.mono : ∀ a0 k, LeO (laws_zzFits2.f k a0) (laws_zzFits2.f (k + 1) a0) := by
  intro a0 k
  have ih0 := laws_zzFits2.mono_l k
  unfold laws_zzFits2.f
  repeat' first
      | (with_reducible exact ih0 _ _ _)
      | (with_reducible exact LeO.refl _)
      | (with_reducible exact LeO.none _)
      | (with_reducible refine LeO.ite ?_ ?_)
      | (with_reducible refine LeO.bind ?_ (fun _ => ?_))
      | exact ih0 _ _ _
      | exact LeO.none _
      | refine LeO.ite ?_ ?_
      | refine LeO.bind ?_ (fun _ => ?_)
set_option maxHeartbeats 8000000 in
set_option maxRecDepth 100000 in
theorem laws_zzFits2.calls (k : Nat) (A0 : Option Addr) (c0 : Nat) (l0 : List (List Int)) (r : Bool) (w : World) (hr0 : Kd.C (Kd.slice 5 (Kd.int .u8)) w A0 l0.length l0) (hc0 : l0.length ≤ c0) (h : laws_zzFits2.f k l0 = some r) :
    Calls Tryd.prog 12 #[.slice A0 l0.length c0] w fun e w' => e = .returned (.bool r) ∧ Drawn0 w w' := by
  have HR0 := Aside0.mk hr0
  have HC0 := Aside0.mk hc0
  clear hr0 hc0
  have H : (if (l0.length : Int) > 2147483647 then (some false) else (laws_zzFits2.l0 k l0 (l0.length : Int) 0)) = some r := h
  clear h
  by_cases c2 : (l0.length : Int) > 2147483647
  · rw [if_pos c2] at H
    have c2b0 : decide (2147483647 < (l0.length : Int)) = true := decide_eq_true c2
    have c2b1 : decide (2147483647 < l0.length) = true := decide_eq_true (by omega)
    clear c2
    obtain rfl := Option.some.inj H
    go_enter Tryd.func12, Tryd.ntmps12
    go_wp2
    go_ret
    exact ⟨by first | rfl | (simp; done) | (simp [*]; done), by repeat (first | exact Drawn0.refl _ | apply Drawn0.step)⟩
  · rw [if_neg c2] at H
    have c2b0 : decide (2147483647 < (l0.length : Int)) = false := decide_eq_false c2
    have c2b1 : decide (2147483647 < l0.length) = false := decide_eq_false (by omega)
    clear c2
    have H' := Aside0.mk H
    clear H
    go_enter Tryd.func12, Tryd.ntmps12
    go_wp2
    try simp only [Act.put, List.setIfInBounds_toArray, List.set_cons_zero, List.set_cons_succ]
    go_loopg [10] k (fun kq v10 w' => ∃ (x10_1 : Int), v10 = .int .i64 x10_1 ∧ Aside0 (laws_zzFits2.l0 kq l0 (l0.length : Int) x10_1 = some r) ∧ Aside0 (kq ≤ k) ∧ Drawn0 w w')
    case atStart => exact ⟨(0), (by first | rfl | (simp; done) | (simp [*]; done)), H', ⟨Nat.le_refl _⟩, by repeat (first | exact Drawn0.refl _ | apply Drawn0.step)⟩
    case round =>
      clear H'
      try clear c1
      try clear c2
      try clear c2b0
      try clear c2b1
      try clear p2
      obtain ⟨x10_1, rfl, HA, HK1, ⟨m1, rfl⟩⟩ := hrel
      cases gk with
      | zero => exact absurd HA.out (by simp [laws_zzFits2.l0])
      | succ k1 =>
        have H := HA.out
        clear HA
        simp only [laws_zzFits2.l0] at H
        by_cases c3 : x10_1 < (l0.length : Int)
        · rw [if_pos c3] at H
          have c3b0 : decide (x10_1 < (l0.length : Int)) = true := decide_eq_true c3
          clear c3
          by_cases c4 : 0 ≤ x10_1
          · rw [if_pos c4] at H
            have c4b0 : decide (0 ≤ x10_1) = true := decide_eq_true c4
            clear c4
            by_cases c5 : x10_1 < (l0.length : Int)
            · rw [if_pos c5] at H
              have c5b0 : decide (x10_1 < (l0.length : Int)) = true := decide_eq_true c5
              clear c5
              by_cases c6 : ((rd_L1 l0 x10_1).length : Int) > 2147483647
              · rw [if_pos c6] at H
                have c6b0 : decide (2147483647 < ((rd_L1 l0 x10_1).length : Int)) = true := decide_eq_true c6
                have c6b1 : decide (2147483647 < (rd_L1 l0 x10_1).length) = true := decide_eq_true (by omega)
                clear c6
                obtain rfl := Option.some.inj H
                have p213 : 0 ≤ (x10_1 : Int) := of_decide_eq_true (by first | (with_reducible assumption) | assumption)
                have q213 : x10_1 < (l0.length : Int) := of_decide_eq_true (by first | (with_reducible assumption) | assumption)
                obtain ⟨ad213, A213_0, c213_0, e213, hx213_0, hl213_0, hi213_0⟩ := at_L1 HR0.out x10_1 p213 q213
                cases e213
                have HR213_0 := Aside0.mk hi213_0
                have HC213_0 := Aside0.mk hl213_0
                clear hi213_0 hl213_0
                replace p213 := eq_true p213
                replace q213 := eq_true q213
                go_wp2
                go_ret
                exact ⟨by first | rfl | (simp; done) | (simp [*]; done), by repeat (first | exact Drawn0.refl _ | apply Drawn0.step)⟩
              · rw [if_neg c6] at H
                have c6b0 : decide (2147483647 < ((rd_L1 l0 x10_1).length : Int)) = false := decide_eq_false c6
                have c6b1 : decide (2147483647 < (rd_L1 l0 x10_1).length) = false := decide_eq_false (by omega)
                clear c6
                have H' := Aside0.mk H
                clear H
                have p213 : 0 ≤ (x10_1 : Int) := of_decide_eq_true (by first | (with_reducible assumption) | assumption)
                have q213 : x10_1 < (l0.length : Int) := of_decide_eq_true (by first | (with_reducible assumption) | assumption)
                obtain ⟨ad213, A213_0, c213_0, e213, hx213_0, hl213_0, hi213_0⟩ := at_L1 HR0.out x10_1 p213 q213
                cases e213
                have HR213_0 := Aside0.mk hi213_0
                have HC213_0 := Aside0.mk hl213_0
                clear hi213_0 hl213_0
                replace p213 := eq_true p213
                replace q213 := eq_true q213
                go_wp2
                go_roundg k1
                case measure => have := HK1.out; omega
                case rel => exact ⟨(wrap64 (x10_1 + 1)), (by first | rfl | (simp; done) | (simp [*]; done)), H', ⟨by have := HK1.out; omega⟩, by repeat (first | exact Drawn0.refl _ | apply Drawn0.step)⟩
            · rw [if_neg c5] at H
              exact absurd H (by simp)
          · rw [if_neg c4] at H
            exact absurd H (by simp)
        · rw [if_neg c3] at H
          have c3b0 : decide (x10_1 < (l0.length : Int)) = false := decide_eq_false c3
          clear c3
          obtain rfl := Option.some.inj H
          go_wp2
          go_ret
          exact ⟨by first | rfl | (simp; done) | (simp [*]; done), by repeat (first | exact Drawn0.refl _ | apply Drawn0.step)⟩
def laws_logSmall.l0 : Nat → List (List Int) → List (List Int) → Int → Int → Option (Bool)
  | 0, _, _, _, _ => none
  | k + 1, x0, x5, x6, x7 => if x7 < x6 then (if 0 ≤ x7 then (if x7 < (x5.length : Int) then (if ((rd_L1 x5 x7).length : Int) > 5000 then (some false) else (laws_logSmall.l0 k x0 x5 x6 (wrap64 (x7 + 1)))) else (none)) else (none)) else (some (decide ((x0.length : Int) ≤ 300)))
def laws_logSmall.f (k : Nat) (l0 : List (List Int)) : Option (Bool) := laws_logSmall.l0 k l0 l0 (l0.length : Int) 0
theorem laws_logSmall.mono_l : ∀ k, (∀ y0 y1 y2 y3, LeO (laws_logSmall.l0 k y0 y1 y2 y3) (laws_logSmall.l0 (k + 1) y0 y1 y2 y3))
  | 0 => fun _ _ _ _ r h => by simp [laws_logSmall.l0] at h
  | k + 1 => by
    have ih0 := laws_logSmall.mono_l k
    · intro y0 y1 y2 y3
      unfold laws_logSmall.l0
      repeat' first
      | (with_reducible exact ih0 _ _ _ _)
      | (with_reducible exact LeO.refl _)
      | (with_reducible exact LeO.none _)
      | (with_reducible refine LeO.ite ?_ ?_)
      | (with_reducible refine LeO.bind ?_ (fun _ => ?_))
      | exact ih0 _ _ _ _
      | exact LeO.none _
      | refine LeO.ite ?_ ?_
      | refine LeO.bind ?_ (fun _ => ?_)
theorem laws_logSmall.mono : ∀ a0 k, LeO (laws_logSmall.f k a0) (laws_logSmall.f (k + 1) a0) := by
  intro a0 k
  have ih0 := laws_logSmall.mono_l k
  unfold laws_logSmall.f
  repeat' first
      | (with_reducible exact ih0 _ _ _ _)
      | (with_reducible exact LeO.refl _)
      | (with_reducible exact LeO.none _)
      | (with_reducible refine LeO.ite ?_ ?_)
      | (with_reducible refine LeO.bind ?_ (fun _ => ?_))
      | exact ih0 _ _ _ _
      | exact LeO.none _
      | refine LeO.ite ?_ ?_
      | refine LeO.bind ?_ (fun _ => ?_)
set_option maxHeartbeats 8000000 in
set_option maxRecDepth 100000 in
theorem laws_logSmall.calls (k : Nat) (A0 : Option Addr) (c0 : Nat) (l0 : List (List Int)) (r : Bool) (w : World) (hr0 : Kd.C (Kd.slice 5 (Kd.int .u8)) w A0 l0.length l0) (hc0 : l0.length ≤ c0) (h : laws_logSmall.f k l0 = some r) :
    Calls Tryd.prog 13 #[.slice A0 l0.length c0] w fun e w' => e = .returned (.bool r) ∧ Drawn0 w w' := by
  have HR0 := Aside0.mk hr0
  have HC0 := Aside0.mk hc0
  clear hr0 hc0
  have H : (laws_logSmall.l0 k l0 l0 (l0.length : Int) 0) = some r := h
  clear h
  have H' := Aside0.mk H
  clear H
  go_enter Tryd.func13, Tryd.ntmps13
  go_wp2
  try simp only [Act.put, List.setIfInBounds_toArray, List.set_cons_zero, List.set_cons_succ]
  go_loopg [7] k (fun kq v7 w' => ∃ (x7_1 : Int), v7 = .int .i64 x7_1 ∧ Aside0 (laws_logSmall.l0 kq l0 l0 (l0.length : Int) x7_1 = some r) ∧ Aside0 (kq ≤ k) ∧ Drawn0 w w')
  case atStart => exact ⟨(0), (by first | rfl | (simp; done) | (simp [*]; done)), H', ⟨Nat.le_refl _⟩, by repeat (first | exact Drawn0.refl _ | apply Drawn0.step)⟩
  case round =>
    clear H'
    try clear c1
    obtain ⟨x7_1, rfl, HA, HK1, ⟨m1, rfl⟩⟩ := hrel
    cases gk with
    | zero => exact absurd HA.out (by simp [laws_logSmall.l0])
    | succ k1 =>
      have H := HA.out
      clear HA
      simp only [laws_logSmall.l0] at H
      by_cases c2 : x7_1 < (l0.length : Int)
      · rw [if_pos c2] at H
        have c2b0 : decide (x7_1 < (l0.length : Int)) = true := decide_eq_true c2
        clear c2
        by_cases c3 : 0 ≤ x7_1
        · rw [if_pos c3] at H
          have c3b0 : decide (0 ≤ x7_1) = true := decide_eq_true c3
          clear c3
          by_cases c4 : x7_1 < (l0.length : Int)
          · rw [if_pos c4] at H
            have c4b0 : decide (x7_1 < (l0.length : Int)) = true := decide_eq_true c4
            clear c4
            by_cases c5 : ((rd_L1 l0 x7_1).length : Int) > 5000
            · rw [if_pos c5] at H
              have c5b0 : decide (5000 < ((rd_L1 l0 x7_1).length : Int)) = true := decide_eq_true c5
              have c5b1 : decide (5000 < (rd_L1 l0 x7_1).length) = true := decide_eq_true (by omega)
              clear c5
              obtain rfl := Option.some.inj H
              have p214 : 0 ≤ (x7_1 : Int) := of_decide_eq_true (by first | (with_reducible assumption) | assumption)
              have q214 : x7_1 < (l0.length : Int) := of_decide_eq_true (by first | (with_reducible assumption) | assumption)
              obtain ⟨ad214, A214_0, c214_0, e214, hx214_0, hl214_0, hi214_0⟩ := at_L1 HR0.out x7_1 p214 q214
              cases e214
              have HR214_0 := Aside0.mk hi214_0
              have HC214_0 := Aside0.mk hl214_0
              clear hi214_0 hl214_0
              replace p214 := eq_true p214
              replace q214 := eq_true q214
              go_wp2
              go_ret
              exact ⟨by first | rfl | (simp; done) | (simp [*]; done), by repeat (first | exact Drawn0.refl _ | apply Drawn0.step)⟩
            · rw [if_neg c5] at H
              have c5b0 : decide (5000 < ((rd_L1 l0 x7_1).length : Int)) = false := decide_eq_false c5
              have c5b1 : decide (5000 < (rd_L1 l0 x7_1).length) = false := decide_eq_false (by omega)
              clear c5
              have H' := Aside0.mk H
              clear H
              have p214 : 0 ≤ (x7_1 : Int) := of_decide_eq_true (by first | (with_reducible assumption) | assumption)
              have q214 : x7_1 < (l0.length : Int) := of_decide_eq_true (by first | (with_reducible assumption) | assumption)
              obtain ⟨ad214, A214_0, c214_0, e214, hx214_0, hl214_0, hi214_0⟩ := at_L1 HR0.out x7_1 p214 q214
              cases e214
              have HR214_0 := Aside0.mk hi214_0
              have HC214_0 := Aside0.mk hl214_0
              clear hi214_0 hl214_0
              replace p214 := eq_true p214
              replace q214 := eq_true q214
              go_wp2
              go_roundg k1
              case measure => have := HK1.out; omega
              case rel => exact ⟨(wrap64 (x7_1 + 1)), (by first | rfl | (simp; done) | (simp [*]; done)), H', ⟨by have := HK1.out; omega⟩, by repeat (first | exact Drawn0.refl _ | apply Drawn0.step)⟩
          · rw [if_neg c4] at H
            exact absurd H (by simp)
        · rw [if_neg c3] at H
          exact absurd H (by simp)
      · rw [if_neg c2] at H
        have c2b0 : decide (x7_1 < (l0.length : Int)) = false := decide_eq_false c2
        clear c2
        obtain rfl := Option.some.inj H
        go_wp2
        go_ret
        exact ⟨by first | rfl | (simp; done) | (simp [*]; done), by repeat (first | exact Drawn0.refl _ | apply Drawn0.step)⟩
def spec_Terms.f (a0_0 : Int) (a0_1 : Int) (a0_2 : Int) (a0_3 : Int) (a0_4 : Int) (a0_5 : Int) : Option (Bool) := some (a0_0 != 1)
set_option maxHeartbeats 8000000 in
set_option maxRecDepth 100000 in
theorem spec_Terms.calls (a0_0 : Int) (a0_1 : Int) (a0_2 : Int) (a0_3 : Int) (a0_4 : Int) (a0_5 : Int) (r : Bool) (w : World) (h : spec_Terms.f a0_0 a0_1 a0_2 a0_3 a0_4 a0_5 = some r) :
    Calls Tryd.prog 35 #[.agg #[.int .i64 a0_0, .int .i64 a0_1, .int .i64 a0_2, .int .u64 a0_3, .int .u64 a0_4, .int .u64 a0_5]] w fun e w' => e = .returned (.bool r) ∧ Below w.heap.size w w' := by
  have hu24 := Tryd.underlying24
  have HB := Aside0.mk (Below.refl w.heap.size w)
  have H : (some (a0_0 != 1)) = some r := h
  clear h
  obtain rfl := Option.some.inj H
  go_enter Tryd.func35, Tryd.ntmps35
  go_wp2_with (first | ((with_reducible refine gate_dst (N := 1) rfl ?_); refine box_event ?hg (N := 1) ?hd (cs := #[.int .i64 a0_0, .int .i64 a0_1, .int .i64 a0_2, .int .u64 a0_3, .int .u64 a0_4, .int .u64 a0_5]) (t := 24) ?hr ?_; (case hd => rfl); (case hg => rfl); (case hr => first | (go_simp; done) | (go_simp; rfl)); intro gb215 hg w2 hbox hb; have n0_ := Aside0.mk (below_step (by repeat (first | (with_reducible first | exact HB.out | apply below_alloc | apply pw_below_drewN | apply below_drew1) | exact HB.out)) hb); have n1_ := Aside0.mk (hbox); have n2_ := Aside0.mk ((by rw [hg]; exact (below_size (by repeat (first | (with_reducible first | exact HB.out | apply below_alloc | apply pw_below_drewN | apply below_drew1) | exact HB.out))) : w.heap.size ≤ gb215)); have n3_ := Aside0.mk ((by rw [hg]; exact (below_size (by repeat (first | (with_reducible first | exact HB.out | apply below_alloc | apply pw_below_drewN | apply below_drew1) | exact HB.out))) : w.heap.size ≤ gb215)); clear HB; have HB := n0_; have BK215 := n1_; have GW215 := n2_; have GE215 := n3_; clear n0_ n1_ n2_ n3_; clear hb hbox hg; have hcz3_0 : w2.cell? ⟨gb215, 0, none⟩ = some (.int .i64 a0_0) := (blk_cell BK215.out 0).trans rfl; have hcz3_1 : w2.cell? ⟨gb215, 1, none⟩ = some (.int .i64 a0_1) := (blk_cell BK215.out 1).trans rfl; have hcz3_2 : w2.cell? ⟨gb215, 2, none⟩ = some (.int .i64 a0_2) := (blk_cell BK215.out 2).trans rfl; have hcz3_3 : w2.cell? ⟨gb215, 3, none⟩ = some (.int .u64 a0_3) := (blk_cell BK215.out 3).trans rfl; have hcz3_4 : w2.cell? ⟨gb215, 4, none⟩ = some (.int .u64 a0_4) := (blk_cell BK215.out 4).trans rfl; have hcz3_5 : w2.cell? ⟨gb215, 5, none⟩ = some (.int .u64 a0_5) := (blk_cell BK215.out 5).trans rfl; have hfz3_0 := blk_frozen BK215.out 0; have hfz3_1 := blk_frozen BK215.out 1; have hfz3_2 := blk_frozen BK215.out 2; have hfz3_3 := blk_frozen BK215.out 3; have hfz3_4 := blk_frozen BK215.out 4; have hfz3_5 := blk_frozen BK215.out 5))
  go_ret
  exact ⟨by first | rfl | (simp [errW_none, errW_some] <;> rfl) | (simp [*, errW_none, errW_some] <;> rfl), by repeat (first | (with_reducible first | exact HB.out | apply below_alloc | apply pw_below_drewN | apply below_drew1 | refine below_set ?_ GE215.out) | exact HB.out)⟩
mutual
def spec_word.l0 : Nat → Int → List Int → Int → Int → Int → Int → Int → Int → Int → Int → Option (List Int)
  | 0, _, _, _, _, _, _, _, _, _, _ => none
  | k + 1, x1, x12, x13, x14, x217000, x217001, x217002, x217003, x217004, x217005 => if x14 < x13 then (if 0 ≤ x14 then (if x14 < (x12.length : Int) then (spec_word.l0 k (IntKind.u64.wrap ((Go.bits .xor .u64 x1 (IntKind.u64.wrap (rd x12 x14))) * 1099511628211)) x12 x13 (wrap64 (x14 + 1)) x217000 x217001 x217002 x217003 x217004 x217005) else (none)) else (none)) else (if x217002 < 1 then (spec_word.j1 k x1 x217002 true) else (spec_word.j1 k x1 x217002 (decide (x217002 > 8))))
def spec_word.j1 : Nat → Int → Int → Bool → Option (List Int)
  | 0, _, _, _ => none
  | k + 1, x1, x9, x31 => if x31 = true then (spec_word.j2 k x1 8) else (spec_word.j2 k x1 x9)
def spec_word.j2 : Nat → Int → Int → Option (List Int)
  | 0, _, _ => none
  | k + 1, x1, x9 => spec_word.l1 k x1 ([] : List Int) (wrap64 (x9 - 1))
def spec_word.l1 : Nat → Int → List Int → Int → Option (List Int)
  | 0, _, _, _ => none
  | k + 1, x1, x10, x11 => if x11 ≥ 0 then (if 0 ≤ (wrap64 (8 * x11)) then (if x10.length < 140737488355328 then (spec_word.l1 k x1 (x10 ++ [(shr .u64 x1 (wrap64 (8 * x11))) % 256]) (wrap64 (x11 - 1))) else (none)) else (none)) else (some x10)
end
def spec_word.f (k : Nat) (a0_0 : Int) (a0_1 : Int) (a0_2 : Int) (a0_3 : Int) (a0_4 : Int) (a0_5 : Int) (a1 : Int) (l2 : List Int) : Option (List Int) := spec_word.l0 k a1 l2 (l2.length : Int) 0 a0_0 a0_1 a0_2 a0_3 a0_4 a0_5
theorem spec_word.mono_l : ∀ k, (∀ y0 y1 y2 y3 y4 y5 y6 y7 y8 y9, LeO (spec_word.l0 k y0 y1 y2 y3 y4 y5 y6 y7 y8 y9) (spec_word.l0 (k + 1) y0 y1 y2 y3 y4 y5 y6 y7 y8 y9)) ∧ (∀ y0 y1 y2, LeO (spec_word.j1 k y0 y1 y2) (spec_word.j1 (k + 1) y0 y1 y2)) ∧ (∀ y0 y1, LeO (spec_word.j2 k y0 y1) (spec_word.j2 (k + 1) y0 y1)) ∧ (∀ y0 y1 y2, LeO (spec_word.l1 k y0 y1 y2) (spec_word.l1 (k + 1) y0 y1 y2))
  | 0 => ⟨fun _ _ _ _ _ _ _ _ _ _ r h => by simp [spec_word.l0] at h, fun _ _ _ r h => by simp [spec_word.j1] at h, fun _ _ r h => by simp [spec_word.j2] at h, fun _ _ _ r h => by simp [spec_word.l1] at h⟩
  | k + 1 => by
    obtain ⟨ih0, ih1, ih2, ih3⟩ := spec_word.mono_l k
    refine ⟨?_, ?_, ?_, ?_⟩
    · intro y0 y1 y2 y3 y4 y5 y6 y7 y8 y9
      unfold spec_word.l0
      repeat' first
      | (with_reducible exact ih0 _ _ _ _ _ _ _ _ _ _)
      | (with_reducible exact ih1 _ _ _)
      | (with_reducible exact ih2 _ _)
      | (with_reducible exact ih3 _ _ _)
      | (with_reducible exact LeO.refl _)
      | (with_reducible exact LeO.none _)
      | (with_reducible refine LeO.ite ?_ ?_)
      | (with_reducible refine LeO.bind ?_ (fun _ => ?_))
      | exact ih0 _ _ _ _ _ _ _ _ _ _
      | exact ih1 _ _ _
      | exact ih2 _ _
      | exact ih3 _ _ _
      | exact LeO.none _
      | refine LeO.ite ?_ ?_
      | refine LeO.bind ?_ (fun _ => ?_)
    · intro y0 y1 y2
      unfold spec_word.j1
      repeat' first
      | (with_reducible exact ih0 _ _ _ _ _ _ _ _ _ _)
      | (with_reducible exact ih1 _ _ _)
      | (with_reducible exact ih2 _ _)
      | (with_reducible exact ih3 _ _ _)
      | (with_reducible exact LeO.refl _)
      | (with_reducible exact LeO.none _)
      | (with_reducible refine LeO.ite ?_ ?_)
      | (with_reducible refine LeO.bind ?_ (fun _ => ?_))
      | exact ih0 _ _ _ _ _ _ _ _ _ _
      | exact ih1 _ _ _
      | exact ih2 _ _
      | exact ih3 _ _ _
      | exact LeO.none _
      | refine LeO.ite ?_ ?_
      | refine LeO.bind ?_ (fun _ => ?_)
    · intro y0 y1
      unfold spec_word.j2
      repeat' first
      | (with_reducible exact ih0 _ _ _ _ _ _ _ _ _ _)
      | (with_reducible exact ih1 _ _ _)
      | (with_reducible exact ih2 _ _)
      | (with_reducible exact ih3 _ _ _)
      | (with_reducible exact LeO.refl _)
      | (with_reducible exact LeO.none _)
      | (with_reducible refine LeO.ite ?_ ?_)
      | (with_reducible refine LeO.bind ?_ (fun _ => ?_))
      | exact ih0 _ _ _ _ _ _ _ _ _ _
      | exact ih1 _ _ _
      | exact ih2 _ _
      | exact ih3 _ _ _
      | exact LeO.none _
      | refine LeO.ite ?_ ?_
      | refine LeO.bind ?_ (fun _ => ?_)
    · intro y0 y1 y2
      unfold spec_word.l1
      repeat' first
      | (with_reducible exact ih0 _ _ _ _ _ _ _ _ _ _)
      | (with_reducible exact ih1 _ _ _)
      | (with_reducible exact ih2 _ _)
      | (with_reducible exact ih3 _ _ _)
      | (with_reducible exact LeO.refl _)
      | (with_reducible exact LeO.none _)
      | (with_reducible refine LeO.ite ?_ ?_)
      | (with_reducible refine LeO.bind ?_ (fun _ => ?_))
      | exact ih0 _ _ _ _ _ _ _ _ _ _
      | exact ih1 _ _ _
      | exact ih2 _ _
      | exact ih3 _ _ _
      | exact LeO.none _
      | refine LeO.ite ?_ ?_
      | refine LeO.bind ?_ (fun _ => ?_)
theorem spec_word.mono : ∀ a0 a1 a2 a3 a4 a5 a6 a7 k, LeO (spec_word.f k a0 a1 a2 a3 a4 a5 a6 a7) (spec_word.f (k + 1) a0 a1 a2 a3 a4 a5 a6 a7) := by
  intro a0 a1 a2 a3 a4 a5 a6 a7 k
  obtain ⟨ih0, ih1, ih2, ih3⟩ := spec_word.mono_l k
  unfold spec_word.f
  repeat' first
      | (with_reducible exact ih0 _ _ _ _ _ _ _ _ _ _)
      | (with_reducible exact ih1 _ _ _)
      | (with_reducible exact ih2 _ _)
      | (with_reducible exact ih3 _ _ _)
      | (with_reducible exact LeO.refl _)
      | (with_reducible exact LeO.none _)
      | (with_reducible refine LeO.ite ?_ ?_)
      | (with_reducible refine LeO.bind ?_ (fun _ => ?_))
      | exact ih0 _ _ _ _ _ _ _ _ _ _
      | exact ih1 _ _ _
      | exact ih2 _ _
      | exact ih3 _ _ _
      | exact LeO.none _
      | refine LeO.ite ?_ ?_
      | refine LeO.bind ?_ (fun _ => ?_)
set_option maxHeartbeats 8000000 in
set_option maxRecDepth 100000 in
theorem spec_word.calls (k : Nat) (a0_0 : Int) (a0_1 : Int) (a0_2 : Int) (a0_3 : Int) (a0_4 : Int) (a0_5 : Int) (a1 : Int) (A2 : Option Addr) (c2 : Nat) (l2 : List Int) (r : List Int) (w : World) (hr2 : Kd.C (Kd.int .u8) w A2 l2.length l2) (hc2 : l2.length ≤ c2) (h : spec_word.f k a0_0 a0_1 a0_2 a0_3 a0_4 a0_5 a1 l2 = some r) :
    Calls Tryd.prog 85 #[.agg #[.int .i64 a0_0, .int .i64 a0_1, .int .i64 a0_2, .int .u64 a0_3, .int .u64 a0_4, .int .u64 a0_5], .int .u64 a1, .slice A2 l2.length c2] w fun e w' => ∃ v0_ : Value, e = .returned (v0_) ∧ Kd.R (Kd.int .u8) 5 w' w.heap.size (fun _ => True) v0_ r ∧ Below w.heap.size w w' := by
  have hu24 := Tryd.underlying24
  have HR2 := Aside0.mk hr2
  have HC2 := Aside0.mk hc2
  clear hr2 hc2
  have HB := Aside0.mk (Below.refl w.heap.size w)
  have H : (spec_word.l0 k a1 l2 (l2.length : Int) 0 a0_0 a0_1 a0_2 a0_3 a0_4 a0_5) = some r := h
  clear h
  have H' := Aside0.mk H
  clear H
  go_enter Tryd.func85, Tryd.ntmps85
  go_wp2_with (first | ((with_reducible refine gate_dst (N := 3) rfl ?_); refine box_event ?hg (N := 3) ?hd (cs := #[.int .i64 a0_0, .int .i64 a0_1, .int .i64 a0_2, .int .u64 a0_3, .int .u64 a0_4, .int .u64 a0_5]) (t := 24) ?hr ?_; (case hd => rfl); (case hg => rfl); (case hr => first | (go_simp; done) | (go_simp; rfl)); intro gb216 hg w4 hbox hb; have n0_ := Aside0.mk (below_step (by repeat (first | (with_reducible first | exact HB.out | apply below_alloc | apply pw_below_drewN | apply below_drew1) | exact HB.out)) hb); have n1_ := Aside0.mk (hbox); have n2_ := Aside0.mk ((by rw [hg]; exact (below_size (by repeat (first | (with_reducible first | exact HB.out | apply below_alloc | apply pw_below_drewN | apply below_drew1) | exact HB.out))) : w.heap.size ≤ gb216)); have n3_ := Aside0.mk ((by rw [hg]; exact (below_size (by repeat (first | (with_reducible first | exact HB.out | apply below_alloc | apply pw_below_drewN | apply below_drew1) | exact HB.out))) : w.heap.size ≤ gb216)); clear HB; have HB := n0_; have BK216 := n1_; have GW216 := n2_; have GE216 := n3_; clear n0_ n1_ n2_ n3_; clear hb hbox hg))
  try simp only [Act.put, List.setIfInBounds_toArray, List.set_cons_zero, List.set_cons_succ]
  go_loopg [1, 14] k (fun kq v1 v14 w' => ∃ (x1_1 : Int) (x14_1 : Int), v1 = .int .u64 x1_1 ∧ v14 = .int .i64 x14_1 ∧ Aside0 (spec_word.l0 kq x1_1 l2 (l2.length : Int) x14_1 a0_0 a0_1 a0_2 a0_3 a0_4 a0_5 = some r) ∧ Aside0 (kq ≤ k) ∧ Aside0 (w'.heap[gb216]? = some (.cells #[.int .i64 a0_0, .int .i64 a0_1, .int .i64 a0_2, .int .u64 a0_3, .int .u64 a0_4, .int .u64 a0_5] 24 (0, 0))) ∧ Aside0 (Below w.heap.size w w'))
  case atStart => exact ⟨(a1), (0), (by first | rfl | (simp; done) | (simp [*]; done)), (by first | rfl | (simp; done) | (simp [*]; done)), H', ⟨Nat.le_refl _⟩, ⟨by (with_reducible repeat (first | refine blk_drewN ?_ _ | refine blk_drew ?_ | refine blk_alloc ?_ _)); exact BK216.out⟩, ⟨by repeat (first | (with_reducible first | exact HB.out | apply below_alloc | apply pw_below_drewN | apply below_drew1 | refine below_set ?_ GE216.out) | exact HB.out)⟩⟩
  case round =>
    clear H'
    try clear c2
    try clear p2
    obtain ⟨x1_1, x14_1, rfl, rfl, HA, HK1, BK216, HB⟩ := hrel
    cases gk with
    | zero => exact absurd HA.out (by simp [spec_word.l0])
    | succ k1 =>
      have H := HA.out
      clear HA
      simp only [spec_word.l0] at H
      by_cases c5 : x14_1 < (l2.length : Int)
      · rw [if_pos c5] at H
        have c5b0 : decide (x14_1 < (l2.length : Int)) = true := decide_eq_true c5
        clear c5
        by_cases c6 : 0 ≤ x14_1
        · rw [if_pos c6] at H
          have c6b0 : decide (0 ≤ x14_1) = true := decide_eq_true c6
          clear c6
          by_cases c7 : x14_1 < (l2.length : Int)
          · rw [if_pos c7] at H
            have c7b0 : decide (x14_1 < (l2.length : Int)) = true := decide_eq_true c7
            clear c7
            have H' := Aside0.mk H
            clear H
            have p217 : 0 ≤ (x14_1 : Int) := of_decide_eq_true (by first | (with_reducible assumption) | assumption)
            have q217 : x14_1 < (l2.length : Int) := of_decide_eq_true (by first | (with_reducible assumption) | assumption)
            obtain ⟨ad217, e217, hx217_0⟩ := Kd.at_int HR2.out x14_1 p217 q217
            cases e217
            replace hx217_0 := (HB.out.cell (World.block_lt_of_cell? w _ hx217_0)).trans hx217_0
            replace p217 := eq_true p217
            replace q217 := eq_true q217
            go_wp2
            go_roundg k1
            case measure => have := HK1.out; omega
            case rel => exact ⟨(IntKind.u64.wrap ((Go.bits .xor .u64 x1_1 (IntKind.u64.wrap (rd l2 x14_1))) * 1099511628211)), (wrap64 (x14_1 + 1)), (by first | rfl | (simp; done) | (simp [*]; done)), (by first | rfl | (simp; done) | (simp [*]; done)), H', ⟨by have := HK1.out; omega⟩, ⟨by (with_reducible repeat (first | refine blk_drewN ?_ _ | refine blk_drew ?_ | refine blk_alloc ?_ _)); exact BK216.out⟩, ⟨by repeat (first | (with_reducible first | exact HB.out | apply below_alloc | apply pw_below_drewN | apply below_drew1 | refine below_set ?_ GE216.out) | exact HB.out)⟩⟩
          · rw [if_neg c7] at H
            exact absurd H (by simp)
        · rw [if_neg c6] at H
          exact absurd H (by simp)
      · rw [if_neg c5] at H
        have c5b0 : decide (x14_1 < (l2.length : Int)) = false := decide_eq_false c5
        clear c5
        have HC8 := Aside0.mk H
        clear H
        have hcz9_0 : wr.cell? ⟨gb216, 0, none⟩ = some (.int .i64 a0_0) := (blk_cell BK216.out 0).trans rfl
        have hcz9_1 : wr.cell? ⟨gb216, 1, none⟩ = some (.int .i64 a0_1) := (blk_cell BK216.out 1).trans rfl
        have hcz9_2 : wr.cell? ⟨gb216, 2, none⟩ = some (.int .i64 a0_2) := (blk_cell BK216.out 2).trans rfl
        have hcz9_3 : wr.cell? ⟨gb216, 3, none⟩ = some (.int .u64 a0_3) := (blk_cell BK216.out 3).trans rfl
        have hcz9_4 : wr.cell? ⟨gb216, 4, none⟩ = some (.int .u64 a0_4) := (blk_cell BK216.out 4).trans rfl
        have hcz9_5 : wr.cell? ⟨gb216, 5, none⟩ = some (.int .u64 a0_5) := (blk_cell BK216.out 5).trans rfl
        have hfz9_0 := blk_frozen BK216.out 0
        have hfz9_1 := blk_frozen BK216.out 1
        have hfz9_2 := blk_frozen BK216.out 2
        have hfz9_3 := blk_frozen BK216.out 3
        have hfz9_4 := blk_frozen BK216.out 4
        have hfz9_5 := blk_frozen BK216.out 5
        go_upto_region 7 with (fail)
        go_cut [31] (fun v31 wc => ∃ (kq : Nat) (x31_7 : Bool), v31 = .bool x31_7 ∧ Aside0 (spec_word.j1 kq x1_1 a0_2 x31_7 = some r) ∧ Aside0 (kq ≤ k1) ∧ Aside0 (wc.heap[gb216]? = some (.cells #[.int .i64 a0_0, .int .i64 a0_1, .int .i64 a0_2, .int .u64 a0_3, .int .u64 a0_4, .int .u64 a0_5] 24 (0, 0))) ∧ Aside0 (Below w.heap.size w wc))
        case first =>
          have H := HC8.out
          clear HC8
          by_cases c10 : a0_2 < 1
          · rw [if_pos c10] at H
            have c10b0 : decide (a0_2 < 1) = true := decide_eq_true c10
            clear c10
            (first | rw [c10b0] | (simp only [i64_w, i32_w]; rw [c10b0]) | skip)
            have H' := Aside0.mk H
            clear H
            go_wp2
            go_meet
            case rel => exact ⟨_, (true), (by first | rfl | (simp; done) | (simp [*]; done)), H', ⟨by have := HK1.out; first | omega | exact Nat.le_refl _⟩, ⟨by (with_reducible repeat (first | refine blk_drewN ?_ _ | refine blk_drew ?_ | refine blk_alloc ?_ _)); exact BK216.out⟩, ⟨by repeat (first | (with_reducible first | exact HB.out | apply below_alloc | apply pw_below_drewN | apply below_drew1 | refine below_set ?_ GE216.out) | exact HB.out)⟩⟩
          · rw [if_neg c10] at H
            have c10b0 : decide (a0_2 < 1) = false := decide_eq_false c10
            clear c10
            (first | rw [c10b0] | (simp only [i64_w, i32_w]; rw [c10b0]) | skip)
            have H' := Aside0.mk H
            clear H
            go_wp2
            go_meet
            case rel => exact ⟨_, (decide (a0_2 > 8)), (by first | rfl | (simp; done) | (simp [*]; done)), H', ⟨by have := HK1.out; first | omega | exact Nat.le_refl _⟩, ⟨by (with_reducible repeat (first | refine blk_drewN ?_ _ | refine blk_drew ?_ | refine blk_alloc ?_ _)); exact BK216.out⟩, ⟨by repeat (first | (with_reducible first | exact HB.out | apply below_alloc | apply pw_below_drewN | apply below_drew1 | refine below_set ?_ GE216.out) | exact HB.out)⟩⟩
        case rest =>
          clear HC8
          try clear c1
          try clear c2
          try clear p2
          try clear q2
          try clear hx2
          try clear c5
          try clear c5b0
          try clear c6
          try clear c6b0
          try clear p6
          try clear c7
          try clear c7b0
          try clear c8
          try clear c10
          try clear c10b0
          try clear hcz9_0
          try clear hcz9_1
          try clear hcz9_2
          try clear hcz9_3
          try clear hcz9_4
          try clear hcz9_5
          try clear hfz9_0
          try clear hfz9_1
          try clear hfz9_2
          try clear hfz9_3
          try clear hfz9_4
          try clear hfz9_5
          try clear hx217_0
          try clear p2
          try clear p217
          try clear q217
          obtain ⟨kq, x31_7, rfl, HA, HJ7, BK216, HB⟩ := hcut
          cases kq with
          | zero => exact absurd HA.out (by simp [spec_word.j1])
          | succ kj7 =>
            have H := HA.out
            clear HA
            simp only [spec_word.j1] at H
            have HC11 := Aside0.mk H
            clear H
            go_upto_if 31 with (fail)
            go_cut [9] (fun v9 wc => ∃ (kq : Nat) (x9_10 : Int), v9 = .int .i64 x9_10 ∧ Aside0 (spec_word.j2 kq x1_1 x9_10 = some r) ∧ Aside0 (kq ≤ kj7) ∧ Aside0 (wc.heap[gb216]? = some (.cells #[.int .i64 a0_0, .int .i64 a0_1, .int .i64 a0_2, .int .u64 a0_3, .int .u64 a0_4, .int .u64 a0_5] 24 (0, 0))) ∧ Aside0 (Below w.heap.size w wc))
            case first =>
              have H := HC11.out
              clear HC11
              by_cases c12 : x31_7 = true
              · subst c12
                have H1 : (spec_word.j2 kj7 x1_1 8) = some r := by rw [if_pos rfl] at H; exact H
                clear H
                have H := H1
                clear H1
                have H' := Aside0.mk H
                clear H
                go_wp2
                go_meet
                case rel => exact ⟨_, (8), (by first | rfl | (simp; done) | (simp [*]; done)), H', ⟨by have := HK1.out; have := HJ7.out; first | omega | exact Nat.le_refl _⟩, ⟨by (with_reducible repeat (first | refine blk_drewN ?_ _ | refine blk_drew ?_ | refine blk_alloc ?_ _)); exact BK216.out⟩, ⟨by repeat (first | (with_reducible first | exact HB.out | apply below_alloc | apply pw_below_drewN | apply below_drew1 | refine below_set ?_ GE216.out) | exact HB.out)⟩⟩
              · replace c12 := Bool.eq_false_iff.mpr c12
                subst c12
                have H1 : (spec_word.j2 kj7 x1_1 a0_2) = some r := by rw [if_neg (show ¬ (false = true) by decide)] at H; exact H
                clear H
                have H := H1
                clear H1
                have H' := Aside0.mk H
                clear H
                go_wp2
                go_meet
                case rel => exact ⟨_, (a0_2), (by first | rfl | (simp; done) | (simp [*]; done)), H', ⟨by have := HK1.out; have := HJ7.out; first | omega | exact Nat.le_refl _⟩, ⟨by (with_reducible repeat (first | refine blk_drewN ?_ _ | refine blk_drew ?_ | refine blk_alloc ?_ _)); exact BK216.out⟩, ⟨by repeat (first | (with_reducible first | exact HB.out | apply below_alloc | apply pw_below_drewN | apply below_drew1 | refine below_set ?_ GE216.out) | exact HB.out)⟩⟩
            case rest =>
              clear HC11
              try clear c1
              try clear c2
              try clear p2
              try clear q2
              try clear hx2
              try clear c5
              try clear c5b0
              try clear c6
              try clear c6b0
              try clear p6
              try clear c7
              try clear c7b0
              try clear c8
              try clear c10
              try clear c10b0
              try clear c12
              try clear hcz9_0
              try clear hcz9_1
              try clear hcz9_2
              try clear hcz9_3
              try clear hcz9_4
              try clear hcz9_5
              try clear hfz9_0
              try clear hfz9_1
              try clear hfz9_2
              try clear hfz9_3
              try clear hfz9_4
              try clear hfz9_5
              try clear hx217_0
              try clear p2
              try clear p217
              try clear p6
              try clear q2
              try clear q217
              obtain ⟨kq, x9_10, rfl, HA, HJ10, BK216, HB⟩ := hcut
              cases kq with
              | zero => exact absurd HA.out (by simp [spec_word.j2])
              | succ kj10 =>
                have H := HA.out
                clear HA
                simp only [spec_word.j2] at H
                have H' := Aside0.mk H
                clear H
                go_wp2
                try simp only [Act.put, List.setIfInBounds_toArray, List.set_cons_zero, List.set_cons_succ]
                go_loopg [10, 11] kj10 (fun kq v10 v11 w' => ∃ (x10_4 : List Int) (x11_4 : Int), v11 = .int .i64 x11_4 ∧ Aside0 (spec_word.l1 kq x1_1 x10_4 x11_4 = some r) ∧ Aside0 (kq ≤ kj10) ∧ Aside0 (Kd.R (Kd.int .u8) 5 w' w.heap.size (fun _ => True) v10 x10_4) ∧ Aside0 (w'.heap[gb216]? = some (.cells #[.int .i64 a0_0, .int .i64 a0_1, .int .i64 a0_2, .int .u64 a0_3, .int .u64 a0_4, .int .u64 a0_5] 24 (0, 0))) ∧ Aside0 (Below w.heap.size w w'))
                case atStart => exact ⟨(([] : List Int)), (wrap64 (x9_10 - 1)), (by first | rfl | (simp; done) | (simp [*]; done)), H', ⟨Nat.le_refl _⟩, ⟨by first | exact Kd.R_nil _ _ _ _ _ | exact Kd.N_nil _ _ _ _ _ | exact Kd.V_nil _ _ _ _ _ | exact Kd.Q_nil _ _ _ _ _ | exact Kd.S_nil _ _ _ _ _⟩, ⟨by (with_reducible repeat (first | refine blk_drewN ?_ _ | refine blk_drew ?_ | refine blk_alloc ?_ _)); exact BK216.out⟩, ⟨by repeat (first | (with_reducible first | exact HB.out | apply below_alloc | apply pw_below_drewN | apply below_drew1 | refine below_set ?_ GE216.out) | exact HB.out)⟩⟩
                case round =>
                  clear H'
                  try clear c1
                  try clear c2
                  try clear p2
                  try clear q2
                  try clear hx2
                  try clear c5
                  try clear c5b0
                  try clear c6
                  try clear c6b0
                  try clear p6
                  try clear c7
                  try clear c7b0
                  try clear c8
                  try clear c10
                  try clear c10b0
                  try clear c12
                  try clear hcz9_0
                  try clear hcz9_1
                  try clear hcz9_2
                  try clear hcz9_3
                  try clear hcz9_4
                  try clear hcz9_5
                  try clear hfz9_0
                  try clear hfz9_1
                  try clear hfz9_2
                  try clear hfz9_3
                  try clear hfz9_4
                  try clear hfz9_5
                  try clear hx217_0
                  try clear p2
                  try clear p217
                  try clear p6
                  try clear q2
                  try clear q217
                  obtain ⟨x10_4, x11_4, rfl, HA, HK4, HO_10, BK216, HB⟩ := hrel
                  cases gk with
                  | zero => exact absurd HA.out (by simp [spec_word.l1])
                  | succ k4 =>
                    have H := HA.out
                    clear HA
                    simp only [spec_word.l1] at H
                    by_cases c13 : x11_4 ≥ 0
                    · rw [if_pos c13] at H
                      have c13b0 : decide (0 ≤ x11_4) = true := decide_eq_true c13
                      clear c13
                      obtain ⟨ji14, hji14⟩ : ∃ j_ : Int, (wrap64 (8 * x11_4)) = j_ := ⟨_, rfl⟩
                      replace H : (if 0 ≤ (ji14) then (if x10_4.length < 140737488355328 then (spec_word.l1 k4 x1_1 (x10_4 ++ [(shr .u64 x1_1 (ji14)) % 256]) (wrap64 (x11_4 - 1))) else (none)) else (none)) = some r := by first | (rw [hji14] at H; exact H) | (simp only [hji14] at H ⊢; exact H)
                      have hji14w : (IntKind.i64.wrap (8 * x11_4)) = ji14 := (i64_w _).trans hji14
                      by_cases c15 : 0 ≤ (ji14)
                      · rw [if_pos c15] at H
                        have c15b0 := eq_true c15
                        have c15b1 : decide (0 ≤ (ji14)) = true := decide_eq_true c15
                        clear c15
                        obtain ⟨ji16, hji16⟩ : ∃ j_ : Int, (shr .u64 x1_1 (ji14)) = j_ := ⟨_, rfl⟩
                        replace H : (if x10_4.length < 140737488355328 then (spec_word.l1 k4 x1_1 (x10_4 ++ [(ji16) % 256]) (wrap64 (x11_4 - 1))) else (none)) = some r := by first | (rw [hji16] at H; exact H) | (simp only [hji16] at H ⊢; exact H)
                        have hji16_ : (x1_1 / 2 ^ min (ji14).toNat 64) = ji16 := hji16
                        have hji16z : (ji14) ≤ 64 → (x1_1 / 2 ^ (ji14).toNat) = ji16 := shr_small hji16
                        by_cases c17 : x10_4.length < 140737488355328
                        · rw [if_pos c17] at H
                          have LMc17 := Aside0.mk c17
                          clear c17
                          obtain ⟨y218, hy218⟩ : ∃ y_ : List Int, y_ = (x10_4 ++ [(ji16) % 256]) := ⟨_, rfl⟩
                          replace H : (spec_word.l1 k4 x1_1 y218 (wrap64 (x11_4 - 1))) = some r := by first | (rw [hy218]; with_reducible exact H) | (have H2_ := (Option.bind_some _ _).symm.trans H; rw [hy218]; with_reducible exact H2_) | (have H2_ := (Option.bind_some _ _).symm.trans H; with_reducible exact H2_) | with_reducible exact H | (rw [hy218]; exact H) | exact H
                          have Ny218 := Aside0.mk hy218
                          clear hy218
                          have H' := Aside0.mk H
                          clear H
                          go_wp2_with (first | ((with_reducible refine gate_builtin (b := .append) (xs := #[.tmp 38, .tmp 44]) rfl ?_); at_builtin; refine Kd.R_append (Kd.int .u8) (w0 := w) w.heap.size rfl (.tmp 38) (.tmp 44) 27 5 (.int .u8 0) 1 rfl Tryd.underlying27 info5 rfl (by decide) (by omega) u10 x10_4 ((ji16) % 256) [.int .u8 ((ji16) % 256)] (fun _ => True) (fun _ => False) rfl rfl ?aP (fun _ hk => hk.elim) ?aF ?aO ?aB ?aS ?aL ?_; (case aP => exact rfl); (case aB => exact (by repeat (first | (with_reducible first | exact HB.out | apply below_alloc | apply pw_below_drewN | apply below_drew1 | refine below_set ?_ GE216.out) | exact HB.out))); (case aF => exact (fun _ _ => trivial)); (case aO => exact (by (with_reducible repeat (first | apply Kd.R_alloc | apply Kd.R_drewN | apply Kd.R_drew)); exact HO_10.out)); (case aS => exact (below_size (by repeat (first | (with_reducible first | exact HB.out | apply below_alloc | apply pw_below_drewN | apply below_drew1 | refine below_set ?_ GE216.out) | exact HB.out)))); (case aL => have := LMc17.out; omega); intro v219 w18 ho hb hg hat; rw [← Ny218.out] at ho; have n0_ := Aside0.mk (blk_grown (g := gb216) (o := .cells #[.int .i64 a0_0, .int .i64 a0_1, .int .i64 a0_2, .int .u64 a0_3, .int .u64 a0_4, .int .u64 a0_5] 24 (0, 0)) (by (with_reducible repeat (first | refine blk_drewN ?_ _ | refine blk_drew ?_ | refine blk_alloc ?_ _)); exact BK216.out) hg (Kd.R_ne HO_10.out BK216.out (by decide))); have n1_ := Aside0.mk (hb); have n2_ := Aside0.mk (ho); clear BK216; clear HB; clear HO_10; have BK216 := n0_; have HB := n1_; have HO220 := n2_; clear n0_ n1_ n2_; clear ho hb hg hat))
                          go_roundg k4
                          case measure => have := HK1.out; have := HJ7.out; have := HJ10.out; have := HK4.out; omega
                          case rel => exact ⟨(y218), (wrap64 (x11_4 - 1)), (by first | rfl | (simp; done) | (simp [*]; done)), H', ⟨by have := HK1.out; have := HJ7.out; have := HJ10.out; have := HK4.out; omega⟩, ⟨by (with_reducible repeat (first | apply Kd.R_alloc | apply Kd.R_drewN | apply Kd.R_drew)); exact HO220.out⟩, ⟨by (with_reducible repeat (first | refine blk_drewN ?_ _ | refine blk_drew ?_ | refine blk_alloc ?_ _)); exact BK216.out⟩, ⟨by repeat (first | (with_reducible first | exact HB.out | apply below_alloc | apply pw_below_drewN | apply below_drew1 | refine below_set ?_ GE216.out) | exact HB.out)⟩⟩
                        · rw [if_neg c17] at H
                          exact absurd H (by simp)
                      · rw [if_neg c15] at H
                        exact absurd H (by simp)
                    · rw [if_neg c13] at H
                      have c13b0 : decide (0 ≤ x11_4) = false := decide_eq_false c13
                      clear c13
                      obtain rfl := Option.some.inj H
                      go_wp2
                      go_ret
                      exact ⟨_, by first | rfl | (simp [errW_none, errW_some] <;> rfl) | (simp [*, errW_none, errW_some] <;> rfl), by (with_reducible repeat (first | apply Kd.R_alloc | apply Kd.R_drewN | apply Kd.R_drew)); exact HO_10.out, by repeat (first | (with_reducible first | exact HB.out | apply below_alloc | apply pw_below_drewN | apply below_drew1 | refine below_set ?_ GE216.out) | exact HB.out)⟩
end Go.Proofs.YtielnphmcaecdaaDoor.PAll
