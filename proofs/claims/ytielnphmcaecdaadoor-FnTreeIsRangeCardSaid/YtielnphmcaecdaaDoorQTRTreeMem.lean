-- Written by a program of this session (wip/tools)
import Derived.Test.YtielnphmcaecdaaDoorQTRPAllx0
import Derived.Test.YtielnphmcaecdaaDoorQTRExtTz
import Derived.Test.YtielnphmcaecdaaDoorQTRPAllx4
namespace Go.Proofs.YtielnphmcaecdaaDoor.PAll
open Go.RowKit Go.Proofs.YtielnphmcaecdaaDoorW.PrintWords Go.Proofs.YtielnphmcaecdaaDoorW.PrintLast Go.Proofs.YtielnphmcaecdaaDoorW.PrintMore
attribute [local go_sem] max2_int min2_int max_two min_two max_three min_three max_four min_four   -- for this text's walks alone
set_option linter.unusedVariables false
set_option linter.unusedSimpArgs false
def proof_decompInclProof.f (k : Nat) (a0 : Int) (a1 : Int) : Option (Int × Int) := (proof_innerProofSize.f k a0 a1).bind fun t207 => (if 0 ≤ (IntKind.u64.wrap (t207)) then ((bits_OnesCount64.f (shr .u64 a0 (IntKind.u64.wrap (t207)))).bind fun t208 => (some (t207, t208))) else (none))
theorem proof_decompInclProof.mono : ∀ a0 a1 k, LeO (proof_decompInclProof.f k a0 a1) (proof_decompInclProof.f (k + 1) a0 a1) := by
  intro a0 a1 k
  unfold proof_decompInclProof.f
  repeat' first
      | (with_reducible exact proof_innerProofSize.mono _ _ _)
      | (with_reducible exact LeO.refl _)
      | (with_reducible exact LeO.none _)
      | (with_reducible refine LeO.ite ?_ ?_)
      | (with_reducible refine LeO.bind ?_ (fun _ => ?_))
      | exact proof_innerProofSize.mono _ _ _
      | exact LeO.none _
      | refine LeO.ite ?_ ?_
      | refine LeO.bind ?_ (fun _ => ?_)
def compact_getMergePath.f (k : Nat) (a0 : Int) (a1 : Int) (a2 : Int) : Option (Int × Int) := (bits_TrailingZeros64.f a1).bind fun t209 => (if a0 = 0 then ((bits_Len64.f k (Go.bits .xor .u64 (IntKind.u64.wrap (a1 - 1)) a2)).bind fun t210 => (if t210 < 64 then (some (IntKind.u64.wrap (t209), IntKind.u64.wrap (wrap64 (t210 - 1)))) else (some (IntKind.u64.wrap (t209), 64 - 1)))) else ((bits_Len64.f k (Go.bits .xor .u64 a1 (IntKind.u64.wrap (a0 - 1)))).bind fun t211 => ((bits_Len64.f k (Go.bits .xor .u64 (IntKind.u64.wrap (a1 - 1)) a2)).bind fun t212 => (if t212 < t211 then (some (IntKind.u64.wrap (t209), IntKind.u64.wrap (wrap64 (t212 - 1)))) else (some (IntKind.u64.wrap (t209), IntKind.u64.wrap (wrap64 (t211 - 1))))))))
theorem compact_getMergePath.mono : ∀ a0 a1 a2 k, LeO (compact_getMergePath.f k a0 a1 a2) (compact_getMergePath.f (k + 1) a0 a1 a2) := by
  intro a0 a1 a2 k
  unfold compact_getMergePath.f
  repeat' first
      | (with_reducible exact bits_Len64.mono _ _)
      | (with_reducible exact LeO.refl _)
      | (with_reducible exact LeO.none _)
      | (with_reducible refine LeO.ite ?_ ?_)
      | (with_reducible refine LeO.bind ?_ (fun _ => ?_))
      | exact bits_Len64.mono _ _
      | exact LeO.none _
      | refine LeO.ite ?_ ?_
      | refine LeO.bind ?_ (fun _ => ?_)
set_option maxHeartbeats 8000000 in
set_option maxRecDepth 100000 in
theorem compact_getMergePath.calls (k : Nat) (a0 : Int) (a1 : Int) (a2 : Int) (r1 : Int) (r2 : Int) (w : World) (hG : Glob w) (h : compact_getMergePath.f k a0 a1 a2 = some (r1, r2)) :
    Calls Tryd.prog 111 #[.int .u64 a0, .int .u64 a1, .int .u64 a2] w fun e w' => e = .returned (.tuple #[.int .u64 r1, .int .u64 r2]) ∧ Drawn0 w w' := by
  have H : ((bits_TrailingZeros64.f a1).bind fun t209 => (if a0 = 0 then ((bits_Len64.f k (Go.bits .xor .u64 (IntKind.u64.wrap (a1 - 1)) a2)).bind fun t210 => (if t210 < 64 then (some (IntKind.u64.wrap (t209), IntKind.u64.wrap (wrap64 (t210 - 1)))) else (some (IntKind.u64.wrap (t209), 64 - 1)))) else ((bits_Len64.f k (Go.bits .xor .u64 a1 (IntKind.u64.wrap (a0 - 1)))).bind fun t211 => ((bits_Len64.f k (Go.bits .xor .u64 (IntKind.u64.wrap (a1 - 1)) a2)).bind fun t212 => (if t212 < t211 then (some (IntKind.u64.wrap (t209), IntKind.u64.wrap (wrap64 (t212 - 1)))) else (some (IntKind.u64.wrap (t209), IntKind.u64.wrap (wrap64 (t211 - 1))))))))) = some (r1, r2) := h
  clear h
  replace H := Option.bind_eq_some_iff.mp H
  obtain ⟨t209, A40, H⟩ := H
  replace H : (if a0 = 0 then ((bits_Len64.f k (Go.bits .xor .u64 (IntKind.u64.wrap (a1 - 1)) a2)).bind fun t210 => (if t210 < 64 then (some (IntKind.u64.wrap (t209), IntKind.u64.wrap (wrap64 (t210 - 1)))) else (some (IntKind.u64.wrap (t209), 64 - 1)))) else ((bits_Len64.f k (Go.bits .xor .u64 a1 (IntKind.u64.wrap (a0 - 1)))).bind fun t211 => ((bits_Len64.f k (Go.bits .xor .u64 (IntKind.u64.wrap (a1 - 1)) a2)).bind fun t212 => (if t212 < t211 then (some (IntKind.u64.wrap (t209), IntKind.u64.wrap (wrap64 (t212 - 1)))) else (some (IntKind.u64.wrap (t209), IntKind.u64.wrap (wrap64 (t211 - 1)))))))) = some (r1, r2) := H
  have A4 := Aside0.mk A40
  clear A40
  by_cases c5 : a0 = 0
  · rw [if_pos c5] at H
    have c5b0 : (a0 == 0) = true := beq_iff_eq.mpr c5
    have c5b1 : (a0 != 0) = false := bne_eq_false_iff_eq.mpr c5
    clear c5
    replace H := Option.bind_eq_some_iff.mp H
    obtain ⟨t210, A60, H⟩ := H
    replace H : (if t210 < 64 then (some (IntKind.u64.wrap (t209), IntKind.u64.wrap (wrap64 (t210 - 1)))) else (some (IntKind.u64.wrap (t209), 64 - 1))) = some (r1, r2) := H
    have A6 := Aside0.mk A60
    clear A60
    by_cases c7 : t210 < 64
    · rw [if_pos c7] at H
      have c7b0 : decide (t210 < 64) = true := decide_eq_true c7
      clear c7
      simp only [Option.some.injEq, Prod.mk.injEq] at H
      obtain ⟨rfl, rfl⟩ := H
      go_enter Tryd.func111, Tryd.ntmps111
      go_wp2_with (first | ((with_reducible refine gate_callee (f := 95) rfl ?_); refine goesL_ (some 12) rfl rfl Tryd.func95 (by kernel_rfl) rfl #[.int .u64 a1] rfl (by (try simp only [List.map_toArray, List.map_cons, List.map_nil]); first | done | rfl | (simp only [List.length_drop, List.length_take]; rfl)) ?_; (with_reducible refine (bits_TrailingZeros64.calls a1 t209 _ ?side1 A4.out).mono ?_); (case side1 => repeat (first | exact hG | apply Glob.drewN | apply Glob.drew)); rintro e w' ⟨rfl, ⟨nd, rfl⟩⟩; refine ⟨_, rfl, ?_⟩) | ((with_reducible refine gate_callee (f := 109) rfl ?_); refine goesL_ (some 24) rfl rfl Tryd.func109 (by kernel_rfl) rfl #[.int .u64 (Go.bits .xor .u64 (IntKind.u64.wrap (a1 - 1)) a2)] rfl (by (try simp only [List.map_toArray, List.map_cons, List.map_nil]); first | done | rfl | (simp only [List.length_drop, List.length_take]; rfl)) ?_; (with_reducible refine (bits_Len64.calls k (Go.bits .xor .u64 (IntKind.u64.wrap (a1 - 1)) a2) t210 _ A6.out).mono ?_); rintro e w' ⟨rfl, ⟨nd, rfl⟩⟩; refine ⟨_, rfl, ?_⟩))
      go_ret2
      exact ⟨by first | rfl | (simp; done) | (simp [*]; done), by repeat (first | exact Drawn0.refl _ | apply Drawn0.step)⟩
    · rw [if_neg c7] at H
      have c7b0 : decide (t210 < 64) = false := decide_eq_false c7
      clear c7
      simp only [Option.some.injEq, Prod.mk.injEq] at H
      obtain ⟨rfl, rfl⟩ := H
      go_enter Tryd.func111, Tryd.ntmps111
      go_wp2_with (first | ((with_reducible refine gate_callee (f := 95) rfl ?_); refine goesL_ (some 12) rfl rfl Tryd.func95 (by kernel_rfl) rfl #[.int .u64 a1] rfl (by (try simp only [List.map_toArray, List.map_cons, List.map_nil]); first | done | rfl | (simp only [List.length_drop, List.length_take]; rfl)) ?_; (with_reducible refine (bits_TrailingZeros64.calls a1 t209 _ ?side1 A4.out).mono ?_); (case side1 => repeat (first | exact hG | apply Glob.drewN | apply Glob.drew)); rintro e w' ⟨rfl, ⟨nd, rfl⟩⟩; refine ⟨_, rfl, ?_⟩) | ((with_reducible refine gate_callee (f := 109) rfl ?_); refine goesL_ (some 24) rfl rfl Tryd.func109 (by kernel_rfl) rfl #[.int .u64 (Go.bits .xor .u64 (IntKind.u64.wrap (a1 - 1)) a2)] rfl (by (try simp only [List.map_toArray, List.map_cons, List.map_nil]); first | done | rfl | (simp only [List.length_drop, List.length_take]; rfl)) ?_; (with_reducible refine (bits_Len64.calls k (Go.bits .xor .u64 (IntKind.u64.wrap (a1 - 1)) a2) t210 _ A6.out).mono ?_); rintro e w' ⟨rfl, ⟨nd, rfl⟩⟩; refine ⟨_, rfl, ?_⟩))
      go_ret2
      exact ⟨by first | rfl | (simp; done) | (simp [*]; done), by repeat (first | exact Drawn0.refl _ | apply Drawn0.step)⟩
  · rw [if_neg c5] at H
    have c5b0 : (a0 == 0) = false := beq_eq_false_iff_ne.mpr c5
    have c5b1 : (a0 != 0) = true := bne_iff_ne.mpr c5
    replace H := Option.bind_eq_some_iff.mp H
    obtain ⟨t211, A80, H⟩ := H
    replace H : ((bits_Len64.f k (Go.bits .xor .u64 (IntKind.u64.wrap (a1 - 1)) a2)).bind fun t212 => (if t212 < t211 then (some (IntKind.u64.wrap (t209), IntKind.u64.wrap (wrap64 (t212 - 1)))) else (some (IntKind.u64.wrap (t209), IntKind.u64.wrap (wrap64 (t211 - 1)))))) = some (r1, r2) := H
    have A8 := Aside0.mk A80
    clear A80
    replace H := Option.bind_eq_some_iff.mp H
    obtain ⟨t212, A90, H⟩ := H
    replace H : (if t212 < t211 then (some (IntKind.u64.wrap (t209), IntKind.u64.wrap (wrap64 (t212 - 1)))) else (some (IntKind.u64.wrap (t209), IntKind.u64.wrap (wrap64 (t211 - 1))))) = some (r1, r2) := H
    have A9 := Aside0.mk A90
    clear A90
    by_cases c10 : t212 < t211
    · rw [if_pos c10] at H
      have c10b0 : decide (t212 < t211) = true := decide_eq_true c10
      clear c10
      simp only [Option.some.injEq, Prod.mk.injEq] at H
      obtain ⟨rfl, rfl⟩ := H
      go_enter Tryd.func111, Tryd.ntmps111
      go_wp2_with (first | ((with_reducible refine gate_callee (f := 95) rfl ?_); refine goesL_ (some 12) rfl rfl Tryd.func95 (by kernel_rfl) rfl #[.int .u64 a1] rfl (by (try simp only [List.map_toArray, List.map_cons, List.map_nil]); first | done | rfl | (simp only [List.length_drop, List.length_take]; rfl)) ?_; (with_reducible refine (bits_TrailingZeros64.calls a1 t209 _ ?side1 A4.out).mono ?_); (case side1 => repeat (first | exact hG | apply Glob.drewN | apply Glob.drew)); rintro e w' ⟨rfl, ⟨nd, rfl⟩⟩; refine ⟨_, rfl, ?_⟩) | ((with_reducible refine gate_callee (f := 109) rfl ?_); refine goesL_ (some 19) rfl rfl Tryd.func109 (by kernel_rfl) rfl #[.int .u64 (Go.bits .xor .u64 a1 (IntKind.u64.wrap (a0 - 1)))] rfl (by (try simp only [List.map_toArray, List.map_cons, List.map_nil]); first | done | rfl | (simp only [List.length_drop, List.length_take]; rfl)) ?_; (with_reducible refine (bits_Len64.calls k (Go.bits .xor .u64 a1 (IntKind.u64.wrap (a0 - 1))) t211 _ A8.out).mono ?_); rintro e w' ⟨rfl, ⟨nd, rfl⟩⟩; refine ⟨_, rfl, ?_⟩) | ((with_reducible refine gate_callee (f := 109) rfl ?_); refine goesL_ (some 24) rfl rfl Tryd.func109 (by kernel_rfl) rfl #[.int .u64 (Go.bits .xor .u64 (IntKind.u64.wrap (a1 - 1)) a2)] rfl (by (try simp only [List.map_toArray, List.map_cons, List.map_nil]); first | done | rfl | (simp only [List.length_drop, List.length_take]; rfl)) ?_; (with_reducible refine (bits_Len64.calls k (Go.bits .xor .u64 (IntKind.u64.wrap (a1 - 1)) a2) t212 _ A9.out).mono ?_); rintro e w' ⟨rfl, ⟨nd, rfl⟩⟩; refine ⟨_, rfl, ?_⟩))
      go_ret2
      exact ⟨by first | rfl | (simp; done) | (simp [*]; done), by repeat (first | exact Drawn0.refl _ | apply Drawn0.step)⟩
    · rw [if_neg c10] at H
      have c10b0 : decide (t212 < t211) = false := decide_eq_false c10
      clear c10
      simp only [Option.some.injEq, Prod.mk.injEq] at H
      obtain ⟨rfl, rfl⟩ := H
      go_enter Tryd.func111, Tryd.ntmps111
      go_wp2_with (first | ((with_reducible refine gate_callee (f := 95) rfl ?_); refine goesL_ (some 12) rfl rfl Tryd.func95 (by kernel_rfl) rfl #[.int .u64 a1] rfl (by (try simp only [List.map_toArray, List.map_cons, List.map_nil]); first | done | rfl | (simp only [List.length_drop, List.length_take]; rfl)) ?_; (with_reducible refine (bits_TrailingZeros64.calls a1 t209 _ ?side1 A4.out).mono ?_); (case side1 => repeat (first | exact hG | apply Glob.drewN | apply Glob.drew)); rintro e w' ⟨rfl, ⟨nd, rfl⟩⟩; refine ⟨_, rfl, ?_⟩) | ((with_reducible refine gate_callee (f := 109) rfl ?_); refine goesL_ (some 19) rfl rfl Tryd.func109 (by kernel_rfl) rfl #[.int .u64 (Go.bits .xor .u64 a1 (IntKind.u64.wrap (a0 - 1)))] rfl (by (try simp only [List.map_toArray, List.map_cons, List.map_nil]); first | done | rfl | (simp only [List.length_drop, List.length_take]; rfl)) ?_; (with_reducible refine (bits_Len64.calls k (Go.bits .xor .u64 a1 (IntKind.u64.wrap (a0 - 1))) t211 _ A8.out).mono ?_); rintro e w' ⟨rfl, ⟨nd, rfl⟩⟩; refine ⟨_, rfl, ?_⟩) | ((with_reducible refine gate_callee (f := 109) rfl ?_); refine goesL_ (some 24) rfl rfl Tryd.func109 (by kernel_rfl) rfl #[.int .u64 (Go.bits .xor .u64 (IntKind.u64.wrap (a1 - 1)) a2)] rfl (by (try simp only [List.map_toArray, List.map_cons, List.map_nil]); first | done | rfl | (simp only [List.length_drop, List.length_take]; rfl)) ?_; (with_reducible refine (bits_Len64.calls k (Go.bits .xor .u64 (IntKind.u64.wrap (a1 - 1)) a2) t212 _ A9.out).mono ?_); rintro e w' ⟨rfl, ⟨nd, rfl⟩⟩; refine ⟨_, rfl, ?_⟩))
      go_ret2
      exact ⟨by first | rfl | (simp; done) | (simp [*]; done), by repeat (first | exact Drawn0.refl _ | apply Drawn0.step)⟩
def bytes_Equal.f (l0 : List Int) (l1 : List Int) : Option (Bool) := some ((strOfNums l0).toList == (strOfNums l1).toList)
def spec_SameText.f (l0 : List Int) (l1 : List Int) : Option (Bool) := some ((strOfNums l0).toList == (strOfNums l1).toList)
set_option maxHeartbeats 8000000 in
set_option maxRecDepth 100000 in
theorem spec_SameText.calls (A0 : Option Addr) (c0 : Nat) (l0 : List Int) (A1 : Option Addr) (c1 : Nat) (l1 : List Int) (r : Bool) (w : World) (hr0 : Kd.C (Kd.int .u8) w A0 l0.length l0) (hc0 : l0.length ≤ c0) (hr1 : Kd.C (Kd.int .u8) w A1 l1.length l1) (hc1 : l1.length ≤ c1) (h : spec_SameText.f l0 l1 = some r) :
    Calls Tryd.prog 15 #[.slice A0 l0.length c0, .slice A1 l1.length c1] w fun e w' => e = .returned (.bool r) ∧ Drawn0 w w' := by
  have HR0 := Aside0.mk hr0
  have HC0 := Aside0.mk hc0
  clear hr0 hc0
  have HR1 := Aside0.mk hr1
  have HC1 := Aside0.mk hc1
  clear hr1 hc1
  have H : (some ((strOfNums l0).toList == (strOfNums l1).toList)) = some r := h
  clear h
  obtain rfl := Option.some.inj H
  have hcv3 := Kd.C_string (P := Tryd.prog) (A := A0) (c := c0) Tryd.underlying27 Tryd.underlying5 Tryd.underlying9 HR0.out
  have hcv4 := Kd.C_string (P := Tryd.prog) (A := A1) (c := c1) Tryd.underlying27 Tryd.underlying5 Tryd.underlying9 HR1.out
  go_enter Tryd.func15, Tryd.ntmps15
  go_wp2
  go_ret
  exact ⟨by first | rfl | (simp; done) | (simp [*]; done), by repeat (first | exact Drawn0.refl _ | apply Drawn0.step)⟩
def laws_zzFits2.l0 : Nat → List (List Int) → Int → Int → Option (Bool)
  | 0, _, _, _ => none
  | k + 1, x8, x9, x10 => if x10 < x9 then (if 0 ≤ x10 then (if x10 < (x8.length : Int) then (if ((rd_L1 x8 x10).length : Int) > 2147483647 then (some false) else (laws_zzFits2.l0 k x8 x9 (wrap64 (x10 + 1)))) else (none)) else (none)) else (some true)
def laws_zzFits2.f (k : Nat) (l0 : List (List Int)) : Option (Bool) := if (l0.length : Int) > 2147483647 then (some false) else (laws_zzFits2.l0 k l0 (l0.length : Int) 0)
theorem laws_zzFits2.mono_l : ∀ k, (∀ y0 y1 y2, LeO (laws_zzFits2.l0 k y0 y1 y2) (laws_zzFits2.l0 (k + 1) y0 y1 y2))
  | 0 => fun _ _ _ r h => by simp [laws_zzFits2.l0] at h
  | k + 1 => by
    have ih0 := laws_zzFits2.mono_l k
    · intro y0 y1 y2
      unfold laws_zzFits2.l0
      repeat' first
      | (with_reducible exact ih0 _ _ _)
      | (with_reducible exact LeO.refl _)
      | (with_reducible exact LeO.none _)
      | (with_reducible refine LeO.ite ?_ ?_)
      | (with_reducible refine LeO.bind ?_ (fun _ => ?_))
      | exact ih0 _ _ _
      | exact LeO.none _
      | refine LeO.ite ?_ ?_
      | refine LeO.bind ?_ (fun _ => ?_)
theorem laws_zzFits2.mono : ∀ a0 k, LeO (laws_zzFits2.f k a0) (laws_zzFits2.f (k + 1) a0) := by
  intro a0 k
  have ih0 := laws_zzFits2.mono_l k
  unfold laws_zzFits2.f
  repeat' first
      | (with_reducible exact ih0 _ _ _)
      | (with_reducible exact LeO.refl _)
      | (with_reducible exact LeO.none _)
      | (with_reducible refine LeO.ite ?_ ?_)
      | (with_reducible refine LeO.bind ?_ (fun _ => ?_))
      | exact ih0 _ _ _
      | exact LeO.none _
      | refine LeO.ite ?_ ?_
      | refine LeO.bind ?_ (fun _ => ?_)
set_option maxHeartbeats 8000000 in
set_option maxRecDepth 100000 in
theorem laws_zzFits2.calls (k : Nat) (A0 : Option Addr) (c0 : Nat) (l0 : List (List Int)) (r : Bool) (w : World) (hr0 : Kd.C (Kd.slice 5 (Kd.int .u8)) w A0 l0.length l0) (hc0 : l0.length ≤ c0) (h : laws_zzFits2.f k l0 = some r) :
    Calls Tryd.prog 12 #[.slice A0 l0.length c0] w fun e w' => e = .returned (.bool r) ∧ Drawn0 w w' := by
  have HR0 := Aside0.mk hr0
  have HC0 := Aside0.mk hc0
  clear hr0 hc0
  have H : (if (l0.length : Int) > 2147483647 then (some false) else (laws_zzFits2.l0 k l0 (l0.length : Int) 0)) = some r := h
  clear h
  by_cases c2 : (l0.length : Int) > 2147483647
  · rw [if_pos c2] at H
    have c2b0 : decide (2147483647 < (l0.length : Int)) = true := decide_eq_true c2
    have c2b1 : decide (2147483647 < l0.length) = true := decide_eq_true (by omega)
    clear c2
    obtain rfl := Option.some.inj H
    go_enter Tryd.func12, Tryd.ntmps12
    go_wp2
    go_ret
    exact ⟨by first | rfl | (simp; done) | (simp [*]; done), by repeat (first | exact Drawn0.refl _ | apply Drawn0.step)⟩
  · rw [if_neg c2] at H
    have c2b0 : decide (2147483647 < (l0.length : Int)) = false := decide_eq_false c2
    have c2b1 : decide (2147483647 < l0.length) = false := decide_eq_false (by omega)
    clear c2
    have H' := Aside0.mk H
    clear H
    go_enter Tryd.func12, Tryd.ntmps12
    go_wp2
    try simp only [Act.put, List.setIfInBounds_toArray, List.set_cons_zero, List.set_cons_succ]
    go_loopg [10] k (fun kq v10 w' => ∃ (x10_1 : Int), v10 = .int .i64 x10_1 ∧ Aside0 (laws_zzFits2.l0 kq l0 (l0.length : Int) x10_1 = some r) ∧ Aside0 (kq ≤ k) ∧ Drawn0 w w')
    case atStart => exact ⟨(0), (by first | rfl | (simp; done) | (simp [*]; done)), H', ⟨Nat.le_refl _⟩, by repeat (first | exact Drawn0.refl _ | apply Drawn0.step)⟩
    case round =>
      clear H'
      try clear c1
      try clear c2
      try clear c2b0
      try clear c2b1
      try clear p2
      obtain ⟨x10_1, rfl, HA, HK1, ⟨m1, rfl⟩⟩ := hrel
      cases gk with
      | zero => exact absurd HA.out (by simp [laws_zzFits2.l0])
      | succ k1 =>
        have H := HA.out
        clear HA
        simp only [laws_zzFits2.l0] at H
        by_cases c3 : x10_1 < (l0.length : Int)
        · rw [if_pos c3] at H
          have c3b0 : decide (x10_1 < (l0.length : Int)) = true := decide_eq_true c3
          clear c3
          by_cases c4 : 0 ≤ x10_1
          · rw [if_pos c4] at H
            have c4b0 : decide (0 ≤ x10_1) = true := decide_eq_true c4
            clear c4
            by_cases c5 : x10_1 < (l0.length : Int)
            · rw [if_pos c5] at H
              have c5b0 : decide (x10_1 < (l0.length : Int)) = true := decide_eq_true c5
              clear c5
              by_cases c6 : ((rd_L1 l0 x10_1).length : Int) > 2147483647
              · rw [if_pos c6] at H
                have c6b0 : decide (2147483647 < ((rd_L1 l0 x10_1).length : Int)) = true := decide_eq_true c6
                have c6b1 : decide (2147483647 < (rd_L1 l0 x10_1).length) = true := decide_eq_true (by omega)
                clear c6
                obtain rfl := Option.some.inj H
                have p213 : 0 ≤ (x10_1 : Int) := of_decide_eq_true (by first | (with_reducible assumption) | assumption)
                have q213 : x10_1 < (l0.length : Int) := of_decide_eq_true (by first | (with_reducible assumption) | assumption)
                obtain ⟨ad213, A213_0, c213_0, e213, hx213_0, hl213_0, hi213_0⟩ := at_L1 HR0.out x10_1 p213 q213
                cases e213
                have HR213_0 := Aside0.mk hi213_0
                have HC213_0 := Aside0.mk hl213_0
                clear hi213_0 hl213_0
                replace p213 := eq_true p213
                replace q213 := eq_true q213
                go_wp2
                go_ret
                exact ⟨by first | rfl | (simp; done) | (simp [*]; done), by repeat (first | exact Drawn0.refl _ | apply Drawn0.step)⟩
              · rw [if_neg c6] at H
                have c6b0 : decide (2147483647 < ((rd_L1 l0 x10_1).length : Int)) = false := decide_eq_false c6
                have c6b1 : decide (2147483647 < (rd_L1 l0 x10_1).length) = false := decide_eq_false (by omega)
                clear c6
                have H' := Aside0.mk H
                clear H
                have p213 : 0 ≤ (x10_1 : Int) := of_decide_eq_true (by first | (with_reducible assumption) | assumption)
                have q213 : x10_1 < (l0.length : Int) := of_decide_eq_true (by first | (with_reducible assumption) | assumption)
                obtain ⟨ad213, A213_0, c213_0, e213, hx213_0, hl213_0, hi213_0⟩ := at_L1 HR0.out x10_1 p213 q213
                cases e213
                have HR213_0 := Aside0.mk hi213_0
                have HC213_0 := Aside0.mk hl213_0
                clear hi213_0 hl213_0
                replace p213 := eq_true p213
                replace q213 := eq_true q213
                go_wp2
                go_roundg k1
                case measure => have := HK1.out; omega
                case rel => exact ⟨(wrap64 (x10_1 + 1)), (by first | rfl | (simp; done) | (simp [*]; done)), H', ⟨by have := HK1.out; omega⟩, by repeat (first | exact Drawn0.refl _ | apply Drawn0.step)⟩
            · rw [if_neg c5] at H
              exact absurd H (by simp)
          · rw [if_neg c4] at H
            exact absurd H (by simp)
        · rw [if_neg c3] at H
          have c3b0 : decide (x10_1 < (l0.length : Int)) = false := decide_eq_false c3
          clear c3
          obtain rfl := Option.some.inj H
          go_wp2
          go_ret
          exact ⟨by first | rfl | (simp; done) | (simp [*]; done), by repeat (first | exact Drawn0.refl _ | apply Drawn0.step)⟩
def laws_logSmall.l0 : Nat → List (List Int) → List (List Int) → Int → Int → Option (Bool)
  | 0, _, _, _, _ => none
  | k + 1, x0, x5, x6, x7 => if x7 < x6 then (if 0 ≤ x7 then (if x7 < (x5.length : Int) then (if ((rd_L1 x5 x7).length : Int) > 5000 then (some false) else (laws_logSmall.l0 k x0 x5 x6 (wrap64 (x7 + 1)))) else (none)) else (none)) else (some (decide ((x0.length : Int) ≤ 300)))
def laws_logSmall.f (k : Nat) (l0 : List (List Int)) : Option (Bool) := laws_logSmall.l0 k l0 l0 (l0.length : Int) 0
theorem laws_logSmall.mono_l : ∀ k, (∀ y0 y1 y2 y3, LeO (laws_logSmall.l0 k y0 y1 y2 y3) (laws_logSmall.l0 (k + 1) y0 y1 y2 y3))
  | 0 => fun _ _ _ _ r h => by simp [laws_logSmall.l0] at h
  | k + 1 => by
    have ih0 := laws_logSmall.mono_l k
    · intro y0 y1 y2 y3
      unfold laws_logSmall.l0
      repeat' first
      | (with_reducible exact ih0 _ _ _ _)
      | (with_reducible exact LeO.refl _)
      | (with_reducible exact LeO.none _)
      | (with_reducible refine LeO.ite ?_ ?_)
      | (with_reducible refine LeO.bind ?_ (fun _ => ?_))
      | exact ih0 _ _ _ _
      | exact LeO.none _
      | refine LeO.ite ?_ ?_
      | refine LeO.bind ?_ (fun _ => ?_)
theorem laws_logSmall.mono : ∀ a0 k, LeO (laws_logSmall.f k a0) (laws_logSmall.f (k + 1) a0) := by
  intro a0 k
  have ih0 := laws_logSmall.mono_l k
  unfold laws_logSmall.f
  repeat' first
      | (with_reducible exact ih0 _ _ _ _)
      | (with_reducible exact LeO.refl _)
      | (with_reducible exact LeO.none _)
      | (with_reducible refine LeO.ite ?_ ?_)
      | (with_reducible refine LeO.bind ?_ (fun _ => ?_))
      | exact ih0 _ _ _ _
      | exact LeO.none _
      | refine LeO.ite ?_ ?_
      | refine LeO.bind ?_ (fun _ => ?_)
set_option maxHeartbeats 8000000 in
set_option maxRecDepth 100000 in
theorem laws_logSmall.calls (k : Nat) (A0 : Option Addr) (c0 : Nat) (l0 : List (List Int)) (r : Bool) (w : World) (hr0 : Kd.C (Kd.slice 5 (Kd.int .u8)) w A0 l0.length l0) (hc0 : l0.length ≤ c0) (h : laws_logSmall.f k l0 = some r) :
    Calls Tryd.prog 13 #[.slice A0 l0.length c0] w fun e w' => e = .returned (.bool r) ∧ Drawn0 w w' := by
  have HR0 := Aside0.mk hr0
  have HC0 := Aside0.mk hc0
  clear hr0 hc0
  have H : (laws_logSmall.l0 k l0 l0 (l0.length : Int) 0) = some r := h
  clear h
  have H' := Aside0.mk H
  clear H
  go_enter Tryd.func13, Tryd.ntmps13
  go_wp2
  try simp only [Act.put, List.setIfInBounds_toArray, List.set_cons_zero, List.set_cons_succ]
  go_loopg [7] k (fun kq v7 w' => ∃ (x7_1 : Int), v7 = .int .i64 x7_1 ∧ Aside0 (laws_logSmall.l0 kq l0 l0 (l0.length : Int) x7_1 = some r) ∧ Aside0 (kq ≤ k) ∧ Drawn0 w w')
  case atStart => exact ⟨(0), (by first | rfl | (simp; done) | (simp [*]; done)), H', ⟨Nat.le_refl _⟩, by repeat (first | exact Drawn0.refl _ | apply Drawn0.step)⟩
  case round =>
    clear H'
    try clear c1
    obtain ⟨x7_1, rfl, HA, HK1, ⟨m1, rfl⟩⟩ := hrel
    cases gk with
    | zero => exact absurd HA.out (by simp [laws_logSmall.l0])
    | succ k1 =>
      have H := HA.out
      clear HA
      simp only [laws_logSmall.l0] at H
      by_cases c2 : x7_1 < (l0.length : Int)
      · rw [if_pos c2] at H
        have c2b0 : decide (x7_1 < (l0.length : Int)) = true := decide_eq_true c2
        clear c2
        by_cases c3 : 0 ≤ x7_1
        · rw [if_pos c3] at H
          have c3b0 : decide (0 ≤ x7_1) = true := decide_eq_true c3
          clear c3
          by_cases c4 : x7_1 < (l0.length : Int)
          · rw [if_pos c4] at H
            have c4b0 : decide (x7_1 < (l0.length : Int)) = true := decide_eq_true c4
            clear c4
            by_cases c5 : ((rd_L1 l0 x7_1).length : Int) > 5000
            · rw [if_pos c5] at H
              have c5b0 : decide (5000 < ((rd_L1 l0 x7_1).length : Int)) = true := decide_eq_true c5
              have c5b1 : decide (5000 < (rd_L1 l0 x7_1).length) = true := decide_eq_true (by omega)
              clear c5
              obtain rfl := Option.some.inj H
              have p214 : 0 ≤ (x7_1 : Int) := of_decide_eq_true (by first | (with_reducible assumption) | assumption)
              have q214 : x7_1 < (l0.length : Int) := of_decide_eq_true (by first | (with_reducible assumption) | assumption)
              obtain ⟨ad214, A214_0, c214_0, e214, hx214_0, hl214_0, hi214_0⟩ := at_L1 HR0.out x7_1 p214 q214
              cases e214
              have HR214_0 := Aside0.mk hi214_0
              have HC214_0 := Aside0.mk hl214_0
              clear hi214_0 hl214_0
              replace p214 := eq_true p214
              replace q214 := eq_true q214
              go_wp2
              go_ret
              exact ⟨by first | rfl | (simp; done) | (simp [*]; done), by repeat (first | exact Drawn0.refl _ | apply Drawn0.step)⟩
            · rw [if_neg c5] at H
              have c5b0 : decide (5000 < ((rd_L1 l0 x7_1).length : Int)) = false := decide_eq_false c5
              have c5b1 : decide (5000 < (rd_L1 l0 x7_1).length) = false := decide_eq_false (by omega)
              clear c5
              have H' := Aside0.mk H
              clear H
              have p214 : 0 ≤ (x7_1 : Int) := of_decide_eq_true (by first | (with_reducible assumption) | assumption)
              have q214 : x7_1 < (l0.length : Int) := of_decide_eq_true (by first | (with_reducible assumption) | assumption)
              obtain ⟨ad214, A214_0, c214_0, e214, hx214_0, hl214_0, hi214_0⟩ := at_L1 HR0.out x7_1 p214 q214
              cases e214
              have HR214_0 := Aside0.mk hi214_0
              have HC214_0 := Aside0.mk hl214_0
              clear hi214_0 hl214_0
              replace p214 := eq_true p214
              replace q214 := eq_true q214
              go_wp2
              go_roundg k1
              case measure => have := HK1.out; omega
              case rel => exact ⟨(wrap64 (x7_1 + 1)), (by first | rfl | (simp; done) | (simp [*]; done)), H', ⟨by have := HK1.out; omega⟩, by repeat (first | exact Drawn0.refl _ | apply Drawn0.step)⟩
          · rw [if_neg c4] at H
            exact absurd H (by simp)
        · rw [if_neg c3] at H
          exact absurd H (by simp)
      · rw [if_neg c2] at H
        have c2b0 : decide (x7_1 < (l0.length : Int)) = false := decide_eq_false c2
        clear c2
        obtain rfl := Option.some.inj H
        go_wp2
        go_ret
        exact ⟨by first | rfl | (simp; done) | (simp [*]; done), by repeat (first | exact Drawn0.refl _ | apply Drawn0.step)⟩
def spec_Terms.f (a0_0 : Int) (a0_1 : Int) (a0_2 : Int) (a0_3 : Int) (a0_4 : Int) (a0_5 : Int) : Option (Bool) := some (a0_0 != 1)
mutual
def spec_word.l0 : Nat → Int → List Int → Int → Int → Int → Int → Int → Int → Int → Int → Option (List Int)
  | 0, _, _, _, _, _, _, _, _, _, _ => none
  | k + 1, x1, x12, x13, x14, x217000, x217001, x217002, x217003, x217004, x217005 => if x14 < x13 then (if 0 ≤ x14 then (if x14 < (x12.length : Int) then (spec_word.l0 k (IntKind.u64.wrap ((Go.bits .xor .u64 x1 (IntKind.u64.wrap (rd x12 x14))) * 1099511628211)) x12 x13 (wrap64 (x14 + 1)) x217000 x217001 x217002 x217003 x217004 x217005) else (none)) else (none)) else (if x217002 < 1 then (spec_word.j1 k x1 x217002 true) else (spec_word.j1 k x1 x217002 (decide (x217002 > 8))))
def spec_word.j1 : Nat → Int → Int → Bool → Option (List Int)
  | 0, _, _, _ => none
  | k + 1, x1, x9, x31 => if x31 = true then (spec_word.j2 k x1 8) else (spec_word.j2 k x1 x9)
def spec_word.j2 : Nat → Int → Int → Option (List Int)
  | 0, _, _ => none
  | k + 1, x1, x9 => spec_word.l1 k x1 ([] : List Int) (wrap64 (x9 - 1))
def spec_word.l1 : Nat → Int → List Int → Int → Option (List Int)
  | 0, _, _, _ => none
  | k + 1, x1, x10, x11 => if x11 ≥ 0 then (if 0 ≤ (wrap64 (8 * x11)) then (if x10.length < 140737488355328 then (spec_word.l1 k x1 (x10 ++ [(shr .u64 x1 (wrap64 (8 * x11))) % 256]) (wrap64 (x11 - 1))) else (none)) else (none)) else (some x10)
end
def spec_word.f (k : Nat) (a0_0 : Int) (a0_1 : Int) (a0_2 : Int) (a0_3 : Int) (a0_4 : Int) (a0_5 : Int) (a1 : Int) (l2 : List Int) : Option (List Int) := spec_word.l0 k a1 l2 (l2.length : Int) 0 a0_0 a0_1 a0_2 a0_3 a0_4 a0_5
theorem spec_word.mono_l : ∀ k, (∀ y0 y1 y2 y3 y4 y5 y6 y7 y8 y9, LeO (spec_word.l0 k y0 y1 y2 y3 y4 y5 y6 y7 y8 y9) (spec_word.l0 (k + 1) y0 y1 y2 y3 y4 y5 y6 y7 y8 y9)) ∧ (∀ y0 y1 y2, LeO (spec_word.j1 k y0 y1 y2) (spec_word.j1 (k + 1) y0 y1 y2)) ∧ (∀ y0 y1, LeO (spec_word.j2 k y0 y1) (spec_word.j2 (k + 1) y0 y1)) ∧ (∀ y0 y1 y2, LeO (spec_word.l1 k y0 y1 y2) (spec_word.l1 (k + 1) y0 y1 y2))
  | 0 => ⟨fun _ _ _ _ _ _ _ _ _ _ r h => by simp [spec_word.l0] at h, fun _ _ _ r h => by simp [spec_word.j1] at h, fun _ _ r h => by simp [spec_word.j2] at h, fun _ _ _ r h => by simp [spec_word.l1] at h⟩
  | k + 1 => by
    obtain ⟨ih0, ih1, ih2, ih3⟩ := spec_word.mono_l k
    refine ⟨?_, ?_, ?_, ?_⟩
    · intro y0 y1 y2 y3 y4 y5 y6 y7 y8 y9
      unfold spec_word.l0
      repeat' first
      | (with_reducible exact ih0 _ _ _ _ _ _ _ _ _ _)
      | (with_reducible exact ih1 _ _ _)
      | (with_reducible exact ih2 _ _)
      | (with_reducible exact ih3 _ _ _)
      | (with_reducible exact LeO.refl _)
      | (with_reducible exact LeO.none _)
      | (with_reducible refine LeO.ite ?_ ?_)
      | (with_reducible refine LeO.bind ?_ (fun _ => ?_))
      | exact ih0 _ _ _ _ _ _ _ _ _ _
      | exact ih1 _ _ _
      | exact ih2 _ _
      | exact ih3 _ _ _
      | exact LeO.none _
      | refine LeO.ite ?_ ?_
      | refine LeO.bind ?_ (fun _ => ?_)
    · intro y0 y1 y2
      unfold spec_word.j1
      repeat' first
      | (with_reducible exact ih0 _ _ _ _ _ _ _ _ _ _)
      | (with_reducible exact ih1 _ _ _)
      | (with_reducible exact ih2 _ _)
      | (with_reducible exact ih3 _ _ _)
      | (with_reducible exact LeO.refl _)
      | (with_reducible exact LeO.none _)
      | (with_reducible refine LeO.ite ?_ ?_)
      | (with_reducible refine LeO.bind ?_ (fun _ => ?_))
      | exact ih0 _ _ _ _ _ _ _ _ _ _
      | exact ih1 _ _ _
      | exact ih2 _ _
      | exact ih3 _ _ _
      | exact LeO.none _
      | refine LeO.ite ?_ ?_
      | refine LeO.bind ?_ (fun _ => ?_)
    · intro y0 y1
      unfold spec_word.j2
      repeat' first
      | (with_reducible exact ih0 _ _ _ _ _ _ _ _ _ _)
      | (with_reducible exact ih1 _ _ _)
      | (with_reducible exact ih2 _ _)
      | (with_reducible exact ih3 _ _ _)
      | (with_reducible exact LeO.refl _)
      | (with_reducible exact LeO.none _)
      | (with_reducible refine LeO.ite ?_ ?_)
      | (with_reducible refine LeO.bind ?_ (fun _ => ?_))
      | exact ih0 _ _ _ _ _ _ _ _ _ _
      | exact ih1 _ _ _
      | exact ih2 _ _
      | exact ih3 _ _ _
      | exact LeO.none _
      | refine LeO.ite ?_ ?_
      | refine LeO.bind ?_ (fun _ => ?_)
    · intro y0 y1 y2
      unfold spec_word.l1
      repeat' first
      | (with_reducible exact ih0 _ _ _ _ _ _ _ _ _ _)
      | (with_reducible exact ih1 _ _ _)
      | (with_reducible exact ih2 _ _)
      | (with_reducible exact ih3 _ _ _)
      | (with_reducible exact LeO.refl _)
      | (with_reducible exact LeO.none _)
      | (with_reducible refine LeO.ite ?_ ?_)
      | (with_reducible refine LeO.bind ?_ (fun _ => ?_))
      | exact ih0 _ _ _ _ _ _ _ _ _ _
      | exact ih1 _ _ _
      | exact ih2 _ _
      | exact ih3 _ _ _
      | exact LeO.none _
      | refine LeO.ite ?_ ?_
      | refine LeO.bind ?_ (fun _ => ?_)
theorem spec_word.mono : ∀ a0 a1 a2 a3 a4 a5 a6 a7 k, LeO (spec_word.f k a0 a1 a2 a3 a4 a5 a6 a7) (spec_word.f (k + 1) a0 a1 a2 a3 a4 a5 a6 a7) := by
  intro a0 a1 a2 a3 a4 a5 a6 a7 k
  obtain ⟨ih0, ih1, ih2, ih3⟩ := spec_word.mono_l k
  unfold spec_word.f
  repeat' first
      | (with_reducible exact ih0 _ _ _ _ _ _ _ _ _ _)
      | (with_reducible exact ih1 _ _ _)
      | (with_reducible exact ih2 _ _)
      | (with_reducible exact ih3 _ _ _)
      | (with_reducible exact LeO.refl _)
      | (with_reducible exact LeO.none _)
      | (with_reducible refine LeO.ite ?_ ?_)
      | (with_reducible refine LeO.bind ?_ (fun _ => ?_))
      | exact ih0 _ _ _ _ _ _ _ _ _ _
      | exact ih1 _ _ _
      | exact ih2 _ _
      | exact ih3 _ _ _
      | exact LeO.none _
      | refine LeO.ite ?_ ?_
      | refine LeO.bind ?_ (fun _ => ?_)
end Go.Proofs.YtielnphmcaecdaaDoor.PAll
namespace Go.Proofs.YtielnphmcaecdaaDoor.PAll
open Go.RowKit Go.Proofs.YtielnphmcaecdaaDoorW.PrintWords Go.Proofs.YtielnphmcaecdaaDoorW.PrintLast Go.Proofs.YtielnphmcaecdaaDoorW.PrintMore
set_option linter.unusedVariables false
abbrev SH : Type := Option Addr × Nat × Nat
abbrev shE (s : SH) : Value := .slice s.1 s.2.1 s.2.2
def kSH : Kd SH := Kd.scalar shE (fun _ => rfl)
def by5 (w : World) (k : Nat) : Prop := ∃ cells, w.heap[k]? = some (.cells cells 5 (0, 0))
def Pres5 (w w' : World) : Prop := ∀ k, by5 w k → w'.heap[k]? = w.heap[k]?
theorem Pres5.refl (w : World) : Pres5 w w := fun _ _ => rfl
theorem Pres5.by {w w' : World} (h : Pres5 w w') {k : Nat} (hk : by5 w k) : by5 w' k := by
  obtain ⟨c, hc⟩ := hk
  exact ⟨c, (h k ⟨c, hc⟩).trans hc⟩
theorem Pres5.trans {a b c : World} (h : Pres5 a b) (g : Pres5 b c) : Pres5 a c := fun k hk => (g k (h.by hk)).trans (h k hk)
theorem by5_lt {w : World} {k : Nat} (h : by5 w k) : k < w.heap.size := by
  obtain ⟨c, hc⟩ := h
  exact (Array.getElem?_eq_some_iff.1 hc).1
theorem Pres5.below {w w' : World} (h : Below w.heap.size w w') : Pres5 w w' := fun k hk => h.block k (by5_lt hk)
theorem Pres5.grown {w w' : World} {row : Option Nat} (hg : w.grownBy w' row) (ht : ∀ k, row = some k → ∃ cells t, t ≠ 5 ∧ w.heap[k]? = some (.cells cells t (0, 0))) : Pres5 w w' := fun k hk => by
  refine hg.block k (by5_lt hk) (fun e => ?_)
  obtain ⟨c, t, h5, hc⟩ := ht k e.symm
  obtain ⟨c', hc'⟩ := hk
  rw [hc] at hc'
  injection hc' with hc'
  injection hc' with _ hc'
  exact h5 hc'
theorem Pres5.set {w : World} {g t : Nat} {cells : Array Value} (hb : w.heap[g]? = some (.cells cells t (0, 0))) (h5 : t ≠ 5) (j : Nat) (u : Value) : Pres5 w (w.setCell ⟨g, j, none⟩ u) := fun k hk => by
  refine Below.heap_setCell w ⟨g, j, none⟩ u k ?_
  rintro rfl
  obtain ⟨c', hc'⟩ := hk
  rw [hb] at hc'
  injection hc' with hc'
  injection hc' with _ hc'
  exact h5 hc'
def Txt (base : Nat) (w : World) (s : SH) (b : List Int) : Prop := Kd.R (Kd.int .u8) 5 w base (fun _ => True) (shE s) b
theorem Txt.pres {base : Nat} {w w' : World} {s : SH} {b : List Int} (h : Txt base w s b) (hp : Pres5 w w') : Txt base w' s b :=
  Kd.R_mono (Kd.R_step (Kd.R_tight rfl h) (fun k hk _ => hp k (Kd.R_typed h k hk.symm))) (fun _ _ => trivial)
theorem Txt.read {base : Nat} {w : World} {A : Option Addr} {n c : Nat} {b : List Int} (h : Txt base w (A, n, c) b) : n = b.length ∧ b.length ≤ c ∧ Kd.C (Kd.int .u8) w A b.length b := by
  obtain ⟨h1, h2, h3⟩ := Kd.R_reads' h
  have h1 : n = b.length := h1
  have h2 : n ≤ c := h2
  exact ⟨h1, by omega, h3⟩
theorem Txt.of_R {base B : Nat} {w : World} {ok : Nat → Prop} {s : SH} {b : List Int} (h : Kd.R (Kd.int .u8) 5 w B ok (shE s) b) (hle : base ≤ B) : Txt base w s b := Kd.R_mono (Kd.R_lower h hle) (fun _ _ => trivial)
structure Frm (base g : Nat) (w w' : World) : Prop where
  os : w'.os = w.os
  tape : w'.tape = w.tape
  output : w'.output = w.output
  size : w.heap.size ≤ w'.heap.size
  block : ∀ k, k < base → k ≠ g → w'.heap[k]? = w.heap[k]?
theorem Frm.refl (base g : Nat) (w : World) : Frm base g w w := ⟨rfl, rfl, rfl, Nat.le_refl _, fun _ _ _ => rfl⟩
theorem Frm.trans {base g : Nat} {a b c : World} (h : Frm base g a b) (k : Frm base g b c) : Frm base g a c :=
  ⟨k.os.trans h.os, k.tape.trans h.tape, k.output.trans h.output, Nat.le_trans h.size k.size, fun i hi hg => (k.block i hi hg).trans (h.block i hi hg)⟩
theorem Frm.of {base g : Nat} {a b : World} (h : Below base a b) : Frm base g a b := ⟨h.os, h.tape, h.output, h.size, fun k hk _ => h.block k hk⟩
theorem Frm.set {base g : Nat} {a b : World} (h : Frm base g a b) {q : Nat} (hq : base ≤ q ∨ q = g) (j : Nat) (u : Value) : Frm base g a (b.setCell ⟨q, j, none⟩ u) :=
  h.trans ⟨rfl, rfl, rfl, by rw [World.size_setCell]; exact Nat.le_refl _, fun k hk hg => Below.heap_setCell b ⟨q, j, none⟩ u k (by show k ≠ q; omega)⟩
theorem Frm.below {base g B : Nat} {a b : World} (h : Frm base g a b) (h1 : B ≤ base) (h2 : B ≤ g) : Below B a b := ⟨h.os, h.tape, h.output, h.size, fun k hk => h.block k (by omega) (by omega)⟩
abbrev Rw (w : World) (base : Nat) (v : Value) (rs : List SH) : Prop := kSH.R 27 w base (fun _ => True) v rs
structure TreeAt (w : World) (tb base g : Nat) (hv : Value) (n : Int) (H : SH) (hs : List SH) (rows : List (List SH)) (val : Nat → Nat → List Int) : Prop where
  cell : w.heap[g]? = some (.cells #[hv, .int .u64 n, shE H] 137 (0, 0))
  outer : kSH.R 25 w base (fun _ => True) (shE H) hs
  len : rows.length = hs.length
  row : ∀ (i : Nat) (h : SH), hs[i]? = some h → ∃ rs, rows[i]? = some rs ∧ Rw w base (shE h) rs
  apart : ∀ (i j : Nat) (h h' : SH) (b : Nat), hs[i]? = some h → hs[j]? = some h' → (shE h).ownBlock = some b → (shE h').ownBlock = some b → i = j
  txt : ∀ (i j : Nat) (rs : List SH) (s : SH), rows[i]? = some rs → rs[j]? = some s → Txt tb w s (val i j)
section
variable {w w' W w1 w2 : World} {tb base g : Nat} {hv : Value} {n : Int} {H h h1 s : SH} {hs : List SH} {rows : List (List SH)} {rs : List SH} {val : Nat → Nat → List Int} {ℓ : Nat}
theorem blk_other {w : World} {a b t u : Nat} {c d : Array Value} (ha : w.heap[a]? = some (.cells c t (0, 0))) (hb : w.heap[b]? = some (.cells d u (0, 0))) (h : t ≠ u) : a ≠ b := by
  rintro rfl
  rw [ha] at hb
  injection hb with hb
  injection hb with _ hb
  exact h hb
theorem TreeAt.below (T : TreeAt w tb base g hv n H hs rows val) (hb : Below w.heap.size w w') : TreeAt w' tb base g hv n H hs rows val where
  cell := (hb.block g (Array.getElem?_eq_some_iff.1 T.cell).1).trans T.cell
  outer := Kd.R_below T.outer hb
  len := T.len
  row := fun i h hi => by
    obtain ⟨rs, h1, h2⟩ := T.row i h hi
    exact ⟨rs, h1, Kd.R_below h2 hb⟩
  apart := T.apart
  txt := fun i j rs s h1 h2 => (T.txt i j rs s h1 h2).pres (Pres5.below hb)
theorem TreeAt.put (T : TreeAt W tb base g hv n H hs rows val) {gH : Nat} (eH : (shE H).ownBlock = some gH) (hi : hs[ℓ]? = some h) (hr : rows[ℓ]? = some rs) (hR : Rw w1 base (shE h1) (rs ++ [s])) (hg : W.grownBy w1 (shE h).ownBlock)
    (hat : (shE h1).ownBlock = (shE h).ownBlock ∨ ∃ b, (shE h1).ownBlock = some b ∧ W.heap.size ≤ b) (hb : Below w1.heap.size w1 w2) (hT : Txt tb W s (val ℓ rs.length)) :
    TreeAt (w2.setCell ⟨gH, ℓ, none⟩ (shE h1)) tb base g hv n H (hs.set ℓ h1) (rows.set ℓ (rs ++ [s])) val ∧ Pres5 W (w2.setCell ⟨gH, ℓ, none⟩ (shE h1)) := by
  obtain ⟨rs0, hr0, hRow⟩ := T.row ℓ h hi
  obtain rfl := Option.some.inj (hr0.symm.trans hr)
  have hlt : ℓ < hs.length := (List.getElem?_eq_some_iff.1 hi).1
  have hty := Kd.R_typed hRow
  have htH := Kd.R_typed T.outer gH eH
  -- to w1
  have p1 : Pres5 W w1 := Pres5.grown hg (fun k e => by obtain ⟨c, hc⟩ := hty k e; exact ⟨c, 27, by decide, hc⟩)
  have p2 : Pres5 w1 w2 := Pres5.below hb
  have hgne : ∀ k, (shE h).ownBlock = some k → g ≠ k := fun k e => by obtain ⟨c, hc⟩ := hty k e; exact blk_other T.cell hc (by decide)
  have c1 : w1.heap[g]? = some (.cells #[hv, .int .u64 n, shE H] 137 (0, 0)) := (hg.block g (Array.getElem?_eq_some_iff.1 T.cell).1 (fun e => hgne g e.symm rfl)).trans T.cell
  have o1 : kSH.R 25 w1 base (fun _ => True) (shE H) hs := Kd.R_over' T.outer hty (by decide) hg
  have c2 : w2.heap[g]? = some (.cells #[hv, .int .u64 n, shE H] 137 (0, 0)) := (hb.block g (Array.getElem?_eq_some_iff.1 c1).1).trans c1
  have o2 := Kd.R_below o1 hb
  obtain ⟨cH, hcH⟩ := Kd.R_typed o2 gH eH
  have p3 : Pres5 w2 (w2.setCell ⟨gH, ℓ, none⟩ (shE h1)) := Pres5.set hcH (by decide) ℓ (shE h1)
  refine ⟨⟨?_, ?_, ?_, ?_, ?_, ?_⟩, (p1.trans p2).trans p3⟩
  · rw [Below.heap_setCell w2 ⟨gH, ℓ, none⟩ (shE h1) g (blk_other c2 hcH (by decide))]; exact c2
  · obtain ⟨gq, cap, hv', hq1, hq2, hq3⟩ := Kd.R_form o2 (by omega)
    have : gq = gH := by
      rw [hv'] at eH
      exact Option.some.inj eH
    subst this
    rw [hv'] at o2 ⊢
    have := Kd.R_putn (enc := shE) o2 (ℓ : Int) h1
    rw [Int.toNat_natCast] at this
    exact this
  · rw [List.length_set, List.length_set]; exact T.len
  · intro i h' hi'
    by_cases e : i = ℓ
    · subst e
      rw [List.getElem?_set_self hlt] at hi'
      obtain rfl := Option.some.inj hi'
      refine ⟨rs0 ++ [s], List.getElem?_set_self (by rw [T.len]; exact hlt), ?_⟩
      exact Kd.R_set (Kd.R_below hR hb) hcH (by decide) _ _
    · rw [List.getElem?_set_ne (by omega)] at hi'
      obtain ⟨rs', h2, h3⟩ := T.row i h' hi'
      refine ⟨rs', by rw [List.getElem?_set_ne (by omega)]; exact h2, ?_⟩
      have h4 : Rw w1 base (shE h') rs' := Kd.R_mono (Kd.R_grown (Kd.R_tight rfl h3) hg (fun k hk e2 => e (T.apart i ℓ h' h k hi' hi hk.symm e2.symm))) (fun _ _ => trivial)
      exact Kd.R_set (Kd.R_below h4 hb) hcH (by decide) _ _
  · intro i j a b k hia hjb ha hb'
    have key : ∀ (m : Nat) (x : SH), (hs.set ℓ h1)[m]? = some x → m ≠ ℓ → hs[m]? = some x := fun m x hx hm => by rwa [List.getElem?_set_ne (by omega)] at hx
    have self : ∀ x, (hs.set ℓ h1)[ℓ]? = some x → x = h1 := fun x hx => by rw [List.getElem?_set_self hlt] at hx; exact (Option.some.inj hx).symm
    have new : ∀ (m : Nat) (x : SH), m ≠ ℓ → hs[m]? = some x → (shE x).ownBlock = some k → (shE h1).ownBlock = some k → False := fun m x hm hx h5 h6 => by
      obtain ⟨rs', _, h7⟩ := T.row m x hx
      have hl := Kd.R_lt h7 k h5
      rcases hat with e | ⟨b0, e, hle⟩
      · exact hm (T.apart m ℓ x h k hx hi h5 (e ▸ h6))
      · rw [e] at h6
        have := Option.some.inj h6
        omega
    by_cases e1 : i = ℓ
    · by_cases e2 : j = ℓ
      · omega
      · subst e1
        rw [self a hia] at ha
        exact (new j b e2 (key j b hjb e2) hb' ha).elim
    · by_cases e2 : j = ℓ
      · subst e2
        rw [self b hjb] at hb'
        exact (new i a e1 (key i a hia e1) ha hb').elim
      · exact T.apart i j a b k (key i a hia e1) (key j b hjb e2) ha hb'
  · intro i j rs' s' h2 h3
    by_cases e : i = ℓ
    · subst e
      rw [List.getElem?_set_self (by rw [T.len]; exact hlt)] at h2
      obtain rfl := Option.some.inj h2
      by_cases e2 : j < rs0.length
      · rw [List.getElem?_append_left e2] at h3
        exact (T.txt i j rs0 s' hr h3).pres ((p1.trans p2).trans p3)
      · have e3 : j = rs0.length := by
          have := (List.getElem?_eq_some_iff.1 h3).1
          rw [List.length_append, List.length_singleton] at this; omega
        subst e3
        rw [List.getElem?_append_right (Nat.le_refl _), Nat.sub_self] at h3
        obtain rfl := Option.some.inj h3
        exact hT.pres ((p1.trans p2).trans p3)
    · rw [List.getElem?_set_ne (by omega)] at h2
      exact (T.txt i j rs' s' h2 h3).pres ((p1.trans p2).trans p3)
theorem TreeAt.more (T : TreeAt W tb base g hv n H hs rows val) {H1 : SH} (hR : kSH.R 25 w1 base (fun _ => True) (shE H1) (hs ++ [(none, 0, 0)])) (hg : W.grownBy w1 (shE H).ownBlock) :
    TreeAt (w1.setCell ⟨g, 2, none⟩ (shE H1)) tb base g hv n H1 (hs ++ [(none, 0, 0)]) (rows ++ [[]]) val ∧ Pres5 W (w1.setCell ⟨g, 2, none⟩ (shE H1)) := by
  have hty := Kd.R_typed T.outer
  have p1 : Pres5 W w1 := Pres5.grown hg (fun k e => by obtain ⟨c, hc⟩ := hty k e; exact ⟨c, 25, by decide, hc⟩)
  have c1 : w1.heap[g]? = some (.cells #[hv, .int .u64 n, shE H] 137 (0, 0)) := (hg.block g (Array.getElem?_eq_some_iff.1 T.cell).1 (fun e => by
    obtain ⟨c, hc⟩ := hty g e.symm
    exact blk_other T.cell hc (by decide) rfl)).trans T.cell
  have p3 : Pres5 w1 (w1.setCell ⟨g, 2, none⟩ (shE H1)) := Pres5.set c1 (by decide) 2 (shE H1)
  refine ⟨⟨?_, ?_, ?_, ?_, ?_, ?_⟩, p1.trans p3⟩
  · rw [blk_set c1]; rfl
  · exact Kd.R_set hR c1 (by decide) _ _
  · rw [List.length_append, List.length_append, T.len]; rfl
  · intro i h' hi'
    by_cases e : i < hs.length
    · rw [List.getElem?_append_left e] at hi'
      obtain ⟨rs', h2, h3⟩ := T.row i h' hi'
      refine ⟨rs', by rw [List.getElem?_append_left (by rw [T.len]; exact e)]; exact h2, ?_⟩
      exact Kd.R_set (Kd.R_over' h3 hty (by decide) hg) c1 (by decide) _ _
    · have e2 : i = hs.length := by
        have := (List.getElem?_eq_some_iff.1 hi').1
        rw [List.length_append, List.length_singleton] at this; omega
      subst e2
      rw [List.getElem?_append_right (Nat.le_refl _), Nat.sub_self] at hi'
      obtain rfl := Option.some.inj hi'
      exact ⟨[], by rw [List.getElem?_append_right (by rw [T.len]; exact Nat.le_refl _), T.len, Nat.sub_self]; rfl, Kd.R_nil _ _ _ _ _⟩
  · intro i j a b k hia hjb ha hb'
    have key : ∀ (m : Nat) (x : SH), (hs ++ [((none, 0, 0) : SH)])[m]? = some x → (shE x).ownBlock = some k → hs[m]? = some x := fun m x hx hm => by
      by_cases e : m < hs.length
      · rwa [List.getElem?_append_left e] at hx
      · have e2 : m = hs.length := by
          have := (List.getElem?_eq_some_iff.1 hx).1
          rw [List.length_append, List.length_singleton] at this; omega
        subst e2
        rw [List.getElem?_append_right (Nat.le_refl _), Nat.sub_self] at hx
        obtain rfl := Option.some.inj hx
        cases hm
    exact T.apart i j a b k (key i a hia ha) (key j b hjb hb') ha hb'
  · intro i j rs' s' h2 h3
    by_cases e : i < rows.length
    · rw [List.getElem?_append_left e] at h2
      exact (T.txt i j rs' s' h2 h3).pres (p1.trans p3)
    · have e2 : i = rows.length := by
        have := (List.getElem?_eq_some_iff.1 h2).1
        rw [List.length_append, List.length_singleton] at this; omega
      subst e2
      rw [List.getElem?_append_right (Nat.le_refl _), Nat.sub_self] at h2
      obtain rfl := Option.some.inj h2
      simp at h3
theorem TreeAt.size (T : TreeAt W tb base g hv n H hs rows val) (m : Int) : TreeAt (W.setCell ⟨g, 1, none⟩ (.int .u64 m)) tb base g hv m H hs rows val ∧ Pres5 W (W.setCell ⟨g, 1, none⟩ (.int .u64 m)) := by
  have p3 : Pres5 W (W.setCell ⟨g, 1, none⟩ (.int .u64 m)) := Pres5.set T.cell (by decide) 1 _
  refine ⟨⟨?_, ?_, T.len, ?_, T.apart, ?_⟩, p3⟩
  · rw [blk_set T.cell]; rfl
  · exact Kd.R_set T.outer T.cell (by decide) _ _
  · intro i h' hi'
    obtain ⟨rs', h2, h3⟩ := T.row i h' hi'
    exact ⟨rs', h2, Kd.R_set h3 T.cell (by decide) _ _⟩
  · exact fun i j rs' s' h2 h3 => (T.txt i j rs' s' h2 h3).pres p3
end
abbrev toyV (a0 a1 a2 a3 a4 a5 : Int) : Value := .agg #[.int .i64 a0, .int .i64 a1, .int .i64 a2, .int .u64 a3, .int .u64 a4, .int .u64 a5]
theorem nxtL {i : Nat} (h : i < 9223372036854775807) : wrap64 ((i : Int) + 1) = ((i + 1 : Nat) : Int) := by unfold wrap64; omega
theorem kSH_cell {e : Nat} {W : World} {base g n cap : Nat} {ok : Nat → Prop} {xs : List SH} {x : SH} {i : Nat} (h : kSH.R e W base ok (.slice (some ⟨g, 0, none⟩) n cap) xs) (hi : xs[i]? = some x) : W.cell? ⟨g, i, none⟩ = some (shE x) ∧ W.frozen? ⟨g, i, none⟩ = false := by
  have hl := (List.getElem?_eq_some_iff.1 hi).1
  have hn := (Kd.R_reads' h).1
  have := Kd.R_celln (enc := shE) x h (i : Int) (by omega) (by omega)
  rw [Int.toNat_natCast] at this
  have e : rdOf x xs (i : Int) = x := by
    unfold rdOf
    rw [Int.toNat_natCast, List.getD_eq_getElem?_getD, hi]; rfl
  rw [e] at this
  exact this
theorem kSH_form {e : Nat} {W : World} {base : Nat} {ok : Nat → Prop} {s : SH} {xs : List SH} (h : kSH.R e W base ok (shE s) xs) (h0 : 0 < xs.length) : ∃ g cap, s = (some ⟨g, 0, none⟩, xs.length, cap) ∧ base ≤ g := by
  obtain ⟨g, cap, hv, hq, _⟩ := Kd.R_form h h0
  obtain ⟨A, n, c⟩ := s
  have hv : Value.slice A n c = .slice (some ⟨g, 0, none⟩) xs.length cap := hv
  injection hv with h1 h2 h3
  subst h1 h2 h3
  exact ⟨g, _, rfl, hq⟩
theorem kSH_val {e : Nat} {W : World} {base : Nat} {ok : Nat → Prop} {v : Value} {xs : List SH} (h : kSH.R e W base ok v xs) : ∃ s, v = shE s := by
  obtain ⟨A, c, rfl⟩ := Kd.R_slice h
  exact ⟨(A, xs.length, c), rfl⟩
theorem kSH_val' {W : World} {base : Nat} {ok : Nat → Prop} {v : Value} {b : List Int} (h : Kd.R (Kd.int .u8) 5 W base ok v b) : ∃ s, v = shE s := by
  obtain ⟨A, c, rfl⟩ := Kd.R_slice h
  exact ⟨(A, b.length, c), rfl⟩
theorem Txt.at {base : Nat} {w : World} {s : SH} {b b' : List Int} (h : Txt base w s b) (e : b' = b) : Txt base w s b' := by subst e; exact h
theorem TreeAt.c0 {w : World} {tb base g : Nat} {hv : Value} {n : Int} {H : SH} {hs : List SH} {rows : List (List SH)} {val : Nat → Nat → List Int} (T : TreeAt w tb base g hv n H hs rows val) : w.cell? ⟨g, 0, none⟩ = some hv ∧ w.cell? ⟨g, 1, none⟩ = some (.int .u64 n) ∧ w.cell? ⟨g, 2, none⟩ = some (shE H) :=
  ⟨blk_cell T.cell 0, blk_cell T.cell 1, blk_cell T.cell 2⟩
theorem TreeAt.grown1 {W w1 : World} {tb base g : Nat} {hv : Value} {n : Int} {H h : SH} {hs : List SH} {rows : List (List SH)} {val : Nat → Nat → List Int} {ℓ : Nat} (T : TreeAt W tb base g hv n H hs rows val) (hi : hs[ℓ]? = some h) (hg : W.grownBy w1 (shE h).ownBlock) :
    w1.heap[g]? = some (.cells #[hv, .int .u64 n, shE H] 137 (0, 0)) ∧ kSH.R 25 w1 base (fun _ => True) (shE H) hs ∧ Pres5 W w1 := by
  obtain ⟨rs0, hr0, hRow⟩ := T.row ℓ h hi
  have hty := Kd.R_typed hRow
  have hgne : ∀ k, (shE h).ownBlock = some k → g ≠ k := fun k e => by obtain ⟨c, hc⟩ := hty k e; exact blk_other T.cell hc (by decide)
  exact ⟨(hg.block g (Array.getElem?_eq_some_iff.1 T.cell).1 (fun e => hgne g e.symm rfl)).trans T.cell, Kd.R_over' T.outer hty (by decide) hg, Pres5.grown hg (fun k e => by obtain ⟨c, hc⟩ := hty k e; exact ⟨c, 27, by decide, hc⟩)⟩
theorem TreeAt.grownH {W w1 : World} {tb base g : Nat} {hv : Value} {n : Int} {H : SH} {hs : List SH} {rows : List (List SH)} {val : Nat → Nat → List Int} (T : TreeAt W tb base g hv n H hs rows val) (hg : W.grownBy w1 (shE H).ownBlock) :
    w1.heap[g]? = some (.cells #[hv, .int .u64 n, shE H] 137 (0, 0)) :=
  (hg.block g (Array.getElem?_eq_some_iff.1 T.cell).1 (fun e => by
    obtain ⟨c, hc⟩ := Kd.R_typed T.outer g e.symm
    exact blk_other T.cell hc (by decide) rfl)).trans T.cell
theorem info25' : (Tryd.prog.info? 25).map (fun i => (i.zero, i.size, i.bytes)) = some (some (.slice none 0 0), 1, 24) := by kernel_rfl
theorem methHC (a0 a1 a2 a3 a4 a5 : Int) (w : World) : (method 302 82 (.agg #[.int .i64 a0, .int .i64 a1, .int .i64 a2, .int .u64 a3, .int .u64 a4, .int .u64 a5]) "HashChildren").run Tryd.prog w = .ok (50, .agg #[.int .i64 a0, .int .i64 a1, .int .i64 a2, .int .u64 a3, .int .u64 a4, .int .u64 a5]) w := by kernel_rfl
theorem rows_SH {w : World} {B : Nat} {v : Value} {xs : List (List Int)} (h : Kd.R (Kd.slice 5 (Kd.int .u8)) 27 w B (fun _ => True) v xs) : ∃ ss : List SH, ss.length = xs.length ∧ Rw w B v ss ∧ ∀ (j : Nat) (s : SH) (b : List Int), ss[j]? = some s → xs[j]? = some b → Txt B w s b := by
  obtain ⟨_, inner, ho, hl, hr⟩ := h
  rw [show (Kd.slice 5 (Kd.int .u8)).sz = 1 from rfl] at hl hr ho
  rw [Nat.mul_one] at hl
  have hat : ∀ (j : Nat) (b : List Int), xs[j]? = some b → ∃ s : SH, inner[j]? = some (shE s) ∧ Txt B w s b := by
    intro j b hj
    obtain ⟨v', h1, h2⟩ := hr j b hj
    have hlt : j < inner.length := by have := (List.getElem?_eq_some_iff.1 hj).1; omega
    rw [Nat.mul_one, List.drop_eq_getElem_cons hlt, List.take_succ_cons, List.take_zero] at h1
    have h1 : inner[j] = v' := List.head_eq_of_cons_eq h1
    obtain ⟨A, c, e⟩ := Kd.R_slice h2
    subst e
    exact ⟨(A, b.length, c), by rw [List.getElem?_eq_getElem hlt, h1], Kd.R_mono h2 (fun _ _ => trivial)⟩
  have hex : ∀ m, m ≤ xs.length → ∃ ss : List SH, ss.length = m ∧ ∀ (j : Nat) (s : SH), ss[j]? = some s → inner[j]? = some (shE s) ∧ ∀ b, xs[j]? = some b → Txt B w s b := by
    intro m
    induction m with
    | zero => exact fun _ => ⟨[], rfl, fun j s h => by simp at h⟩
    | succ m ih =>
      intro hm
      obtain ⟨ss, h1, h2⟩ := ih (by omega)
      obtain ⟨s, h3, h4⟩ := hat m _ (List.getElem?_eq_getElem (by omega : m < xs.length))
      refine ⟨ss ++ [s], by simp [h1], fun j t ht => ?_⟩
      by_cases e : j < m
      · rw [List.getElem?_append_left (by omega)] at ht
        exact h2 j t ht
      · have e2 : j = m := by
          have := (List.getElem?_eq_some_iff.1 ht).1
          rw [List.length_append, List.length_singleton] at this; omega
        subst e2
        rw [List.getElem?_append_right (by omega), h1, Nat.sub_self] at ht
        obtain rfl := Option.some.inj ht
        exact ⟨h3, fun b hb => by rw [List.getElem?_eq_getElem (by omega : j < xs.length)] at hb; obtain rfl := Option.some.inj hb; exact h4⟩
  obtain ⟨ss, h1, h2⟩ := hex xs.length (Nat.le_refl _)
  have hin : inner = encs shE ss := List.ext_getElem? (fun j => by
    by_cases e : j < ss.length
    · rw [(h2 j _ (List.getElem?_eq_getElem e)).1]; simp [encs, e]
    · rw [List.getElem?_eq_none (by omega), List.getElem?_eq_none (by simp [encs]; omega)])
  refine ⟨ss, h1, ?_, fun j s b hs hb => (h2 j s hs).2 b hb⟩
  rw [hin, ← h1] at ho
  exact Kd.R_of_own (enc := shE) ho (fun _ _ => trivial)
end Go.Proofs.YtielnphmcaecdaaDoor.PAll
