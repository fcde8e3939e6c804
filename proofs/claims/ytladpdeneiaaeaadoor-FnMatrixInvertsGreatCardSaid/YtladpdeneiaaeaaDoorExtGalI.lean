import Derived.Test.YtladpdeneiaaeaaDoorExtMatR
import Derived.Test.YtladpdeneiaaeaaDoorFieldFnsR
/-! The inverse of an element by the program's tables. -/
namespace Go.Proofs.YtladpdeneiaaeaaDoor.PInv
open Go.RowKit Go.Proofs.YtladpdeneiaaeaaDoorW.PrintWords
set_option linter.unusedVariables false
/-- The tables, the errors of 'Check', and that of a singular matrix. -/
structure Glob (w : World) : Prop where
  row : PRow.Glob w
  s7 : PRow.Sent 7 w
theorem Glob.below {w w' : World} (h : Glob w) (b : Below w.heap.size w w') : Glob w' := ⟨h.row.below b, h.s7.below b⟩
theorem Glob.drewN {w : World} {n : Nat} (h : Glob w) : Glob (w.drewN n) := h.below (pw_below_drewN (Below.refl _ _) n)
theorem Glob.drew {w : World} (h : Glob w) : Glob w.drew := h.below (below_drew (Below.refl _ _))
theorem flip255 {x : Int} (h0 : 0 ≤ x) (h1 : x ≤ 254) : Go.bits .xor .u8 x 255 = 255 - x := by
  obtain ⟨n, rfl⟩ := Int.eq_ofNat_of_zero_le h0
  exact (show ∀ i : Fin 255, Go.bits .xor .u8 (i.1 : Int) 255 = 255 - (i.1 : Int) by decide +kernel) ⟨n, by omega⟩
/-- What 'galOneOver' gives. -/
def over (a : Int) : Int := PRow.expTab.getD (255 - PRow.lg a).toNat 0
set_option maxHeartbeats 4000000 in
theorem galOneOver.calls (a : Int) (w : World) (hG : Glob w) (h0 : 0 < a) (h1 : a < 256) : Calls Tryd.prog 64 #[.int .u8 a] w fun e w' => e = .returned (.int .u8 (over a)) ∧ Drawn0 w w' := by
  have c0 : (a == 0) = false := beq_eq_false_iff_ne.mpr (by omega)
  have k0 := hG.row.tabs.1 a.toNat (by omega)
  obtain ⟨b00, b01⟩ := PRow.logTab_range a.toNat
  have kx := hG.row.tabs.2
  have h : over a = over a := rfl
  conv at h => lhs; unfold over PRow.lg
  generalize PRow.logTab.getD a.toNat 0 = x at *
  have kx := kx (255 - x).toNat (by omega)
  rw [h] at kx
  have hf := flip255 b00 b01
  have h2 : 0 ≤ a := by omega
  clear h
  generalize over a = r at *
  clear h0 hG
  go_enter Tryd.func64, Tryd.ntmps64
  go_wp2
  go_ret
  exact ⟨rfl, by repeat (first | exact Drawn0.refl _ | apply Drawn0.step)⟩
end Go.Proofs.YtladpdeneiaaeaaDoor.PInv
