-- Written by a program of this session (wip/tools)
import Derived.Test.YtladpdeneiaaeaaPAllx0
namespace Go.Proofs.Ytladpdeneiaaeaa.PAll
open Go.RowKit Go.Proofs.YtladpdeneiaaeaaW.PrintWords Go.Proofs.YtladpdeneiaaeaaW.PrintLast Go.Proofs.YtladpdeneiaaeaaW.PrintMore
attribute [local go_sem] max2_int min2_int max_two min_two max_three min_three max_four min_four   -- for this text's walks alone
set_option linter.unusedVariables false
set_option linter.unusedSimpArgs false

/-! ### reedsolomon_addMod8: function 9 -/
def reedsolomon_addMod8.f (a0 : Int) (a1 : Int) : Option (Int) := some ((IntKind.u64.wrap ((IntKind.u64.wrap ((IntKind.u64.wrap (a0)) + (IntKind.u64.wrap (a1)))) + ((IntKind.u64.wrap ((IntKind.u64.wrap (a0)) + (IntKind.u64.wrap (a1)))) / 256))) % 256)
set_option maxHeartbeats 8000000 in
set_option maxRecDepth 100000 in
theorem reedsolomon_addMod8.calls (a0 : Int) (a1 : Int) (r : Int) (w : World) (h : reedsolomon_addMod8.f a0 a1 = some r) :
    Calls Try.prog 9 #[.int .u8 a0, .int .u8 a1] w fun e w' => e = .returned (.int .u8 r) ∧ Drawn0 w w' := by
  have H : (some ((IntKind.u64.wrap ((IntKind.u64.wrap ((IntKind.u64.wrap (a0)) + (IntKind.u64.wrap (a1)))) + ((IntKind.u64.wrap ((IntKind.u64.wrap (a0)) + (IntKind.u64.wrap (a1)))) / 256))) % 256)) = some r := h
  clear h
  obtain rfl := Option.some.inj H
  go_enter Try.func9, Try.ntmps9
  go_wp2
  go_ret
  exact ⟨by first | rfl | (simp; done) | (simp [*]; done), by repeat (first | exact Drawn0.refl _ | apply Drawn0.step)⟩

/-! ### reedsolomon_subMod8: function 10 -/
def reedsolomon_subMod8.f (a0 : Int) (a1 : Int) : Option (Int) := some ((IntKind.u64.wrap ((IntKind.u64.wrap ((IntKind.u64.wrap (a0)) - (IntKind.u64.wrap (a1)))) + ((IntKind.u64.wrap ((IntKind.u64.wrap (a0)) - (IntKind.u64.wrap (a1)))) / 256))) % 256)
set_option maxHeartbeats 8000000 in
set_option maxRecDepth 100000 in
theorem reedsolomon_subMod8.calls (a0 : Int) (a1 : Int) (r : Int) (w : World) (h : reedsolomon_subMod8.f a0 a1 = some r) :
    Calls Try.prog 10 #[.int .u8 a0, .int .u8 a1] w fun e w' => e = .returned (.int .u8 r) ∧ Drawn0 w w' := by
  have H : (some ((IntKind.u64.wrap ((IntKind.u64.wrap ((IntKind.u64.wrap (a0)) - (IntKind.u64.wrap (a1)))) + ((IntKind.u64.wrap ((IntKind.u64.wrap (a0)) - (IntKind.u64.wrap (a1)))) / 256))) % 256)) = some r := h
  clear h
  obtain rfl := Option.some.inj H
  go_enter Try.func10, Try.ntmps10
  go_wp2
  go_ret
  exact ⟨by first | rfl | (simp; done) | (simp [*]; done), by repeat (first | exact Drawn0.refl _ | apply Drawn0.step)⟩

/-! ### reedsolomon_fwht2alt8: function 8 -/
def reedsolomon_fwht2alt8.f (a0 : Int) (a1 : Int) : Option (Int × Int) := (reedsolomon_addMod8.f a0 a1).bind fun t101 => ((reedsolomon_subMod8.f a0 a1).bind fun t102 => (some (t101, t102)))
set_option maxHeartbeats 8000000 in
set_option maxRecDepth 100000 in
theorem reedsolomon_fwht2alt8.calls (a0 : Int) (a1 : Int) (r1 : Int) (r2 : Int) (w : World) (h : reedsolomon_fwht2alt8.f a0 a1 = some (r1, r2)) :
    Calls Try.prog 8 #[.int .u8 a0, .int .u8 a1] w fun e w' => e = .returned (.tuple #[.int .u8 r1, .int .u8 r2]) ∧ Drawn0 w w' := by
  have H : ((reedsolomon_addMod8.f a0 a1).bind fun t101 => ((reedsolomon_subMod8.f a0 a1).bind fun t102 => (some (t101, t102)))) = some (r1, r2) := h
  clear h
  replace H := Option.bind_eq_some_iff.mp H
  obtain ⟨t101, A30, H⟩ := H
  replace H : ((reedsolomon_subMod8.f a0 a1).bind fun t102 => (some (t101, t102))) = some (r1, r2) := H
  have A3 := Aside0.mk A30
  clear A30
  replace H := Option.bind_eq_some_iff.mp H
  obtain ⟨t102, A40, H⟩ := H
  replace H : (some (t101, t102)) = some (r1, r2) := H
  have A4 := Aside0.mk A40
  clear A40
  simp only [Option.some.injEq, Prod.mk.injEq] at H
  obtain ⟨rfl, rfl⟩ := H
  go_enter Try.func8, Try.ntmps8
  go_wp2_with (first | ((with_reducible refine gate_callee (f := 9) rfl ?_); refine goesL_ (some 8) rfl rfl Try.func9 (by kernel_rfl) rfl #[.int .u8 a0, .int .u8 a1] rfl (by (try simp only [List.map_toArray, List.map_cons, List.map_nil]); first | done | rfl | (simp only [List.length_drop, List.length_take]; rfl)) ?_; (with_reducible refine (reedsolomon_addMod8.calls a0 a1 t101 _ A3.out).mono ?_); rintro e w' ⟨rfl, ⟨nd, rfl⟩⟩; refine ⟨_, rfl, ?_⟩) | ((with_reducible refine gate_callee (f := 10) rfl ?_); refine goesL_ (some 11) rfl rfl Try.func10 (by kernel_rfl) rfl #[.int .u8 a0, .int .u8 a1] rfl (by (try simp only [List.map_toArray, List.map_cons, List.map_nil]); first | done | rfl | (simp only [List.length_drop, List.length_take]; rfl)) ?_; (with_reducible refine (reedsolomon_subMod8.calls a0 a1 t102 _ A4.out).mono ?_); rintro e w' ⟨rfl, ⟨nd, rfl⟩⟩; refine ⟨_, rfl, ?_⟩))
  go_ret2
  exact ⟨by first | rfl | (simp; done) | (simp [*]; done), by repeat (first | exact Drawn0.refl _ | apply Drawn0.step)⟩

/-! ### laws_mod: function 5 -/
def laws_mod.f (a0 : Int) : Option (Int) := some (Int.tmod (wrap64 ((Int.tmod a0 255) + 255)) 255)
set_option maxHeartbeats 8000000 in
set_option maxRecDepth 100000 in
theorem laws_mod.calls (a0 : Int) (r : Int) (w : World) (h : laws_mod.f a0 = some r) :
    Calls Try.prog 5 #[.int .i64 a0] w fun e w' => e = .returned (.int .i64 r) ∧ Drawn0 w w' := by
  have H : (some (Int.tmod (wrap64 ((Int.tmod a0 255) + 255)) 255)) = some r := h
  clear h
  obtain rfl := Option.some.inj H
  go_enter Try.func5, Try.ntmps5
  go_wp2
  go_ret
  exact ⟨by first | rfl | (simp; done) | (simp [*]; done), by repeat (first | exact Drawn0.refl _ | apply Drawn0.step)⟩

end Go.Proofs.Ytladpdeneiaaeaa.PAll
