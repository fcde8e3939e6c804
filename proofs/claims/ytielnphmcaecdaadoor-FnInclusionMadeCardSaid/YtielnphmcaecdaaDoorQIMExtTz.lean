-- Written by a program of this session (wip/tools)
import Derived.Test.YtielnphmcaecdaaDoorProg
import Derived.Test.YtielnphmcaecdaaDoorQIMV0
import Derived.Outline
namespace Go.Proofs.YtielnphmcaecdaaDoor.PAll
open Go.RowKit Go.Proofs.YtielnphmcaecdaaDoorW.PrintWords
def tzTab : List Int := [0, 1, 56, 2, 57, 49, 28, 3, 61, 58, 42, 50, 38, 29, 17, 4, 62, 47, 59, 36, 45, 43, 51, 22, 53, 39, 33, 30, 24, 18, 12, 5, 63, 55, 48, 27, 60, 41, 37, 16, 46, 35, 44, 21, 52, 32, 23, 11, 54, 26, 40, 15, 34, 20, 31, 10, 25, 14, 19, 9, 13, 8, 7, 6]
def Glob (w : World) : Prop := ∀ j : Nat, j < 64 → w.cell? ⟨0, j, none⟩ = some (.int .u8 (tzTab.getD j 0))
theorem Glob.below {w w' : World} (h : Glob w) (b : Below w.heap.size w w') : Glob w' := fun j hj => pw_cell_below b (h j hj)
theorem Glob.drewN {w : World} {n : Nat} (h : Glob w) : Glob (w.drewN n) := h.below (pw_below_drewN (Below.refl _ _) n)
theorem Glob.drew {w : World} (h : Glob w) : Glob w.drew := h.below (below_drew (Below.refl _ _))
def tzIdx (a0 : Int) : Int := IntKind.u64.wrap (Go.bits .and .u64 a0 (IntKind.u64.wrap (-a0)) * 285870213051353865) / 288230376151711744
def bits_TrailingZeros64.f (a0 : Int) : Option Int := if a0 = 0 then some 64 else some (tzTab.getD (tzIdx a0).toNat 0)
theorem u64_range (x : Int) : 0 ≤ IntKind.u64.wrap x ∧ IntKind.u64.wrap x < 18446744073709551616 := by
  have e : IntKind.u64.wrap x = x % 18446744073709551616 := by simp [IntKind.wrap, IntKind.bits, IntKind.signed]
  rw [e]; omega
theorem tz_range (a0 : Int) : 0 ≤ tzIdx a0 ∧ tzIdx a0 < 64 := by
  have := u64_range (Go.bits .and .u64 a0 (IntKind.u64.wrap (-a0)) * 285870213051353865)
  unfold tzIdx; omega
theorem tzTab_range : ∀ i : Nat, 0 ≤ tzTab.getD i 0 ∧ tzTab.getD i 0 ≤ 255 := by
  intro i
  by_cases h : i < 64
  · revert i; decide
  · rw [List.getD_eq_getElem?_getD, List.getElem?_eq_none (by simp [tzTab]; omega)]; decide
theorem bits_TrailingZeros64.calls (a0 : Int) (r : Int) (w : World) (hG : Glob w) (h : bits_TrailingZeros64.f a0 = some r) :
    Calls Tryd.prog 95 #[.int .u64 a0] w fun e w' => e = .returned (.int .i64 r) ∧ Drawn0 w w' := by
  unfold bits_TrailingZeros64.f at h
  by_cases h0 : a0 = 0
  · rw [if_pos h0] at h
    injection h with h
    subst h0 h
    go_enter Tryd.func95, Tryd.ntmps95
    go_wp2
    go_ret
    exact ⟨rfl, Drawn0.refl _⟩
  · rw [if_neg h0] at h
    injection h with h
    have hb : (a0 == 0) = false := by simpa using h0
    have hr := tz_range a0
    have hc := hG (tzIdx a0).toNat (by omega)
    have hv := tzTab_range (tzIdx a0).toNat
    rw [h] at hc hv
    unfold tzIdx at hr hc
    clear h
    obtain ⟨hr0, hr1⟩ := hr
    obtain ⟨hv0, hv1⟩ := hv
    go_enter Tryd.func95, Tryd.ntmps95
    go_wp2
    go_ret
    exact ⟨rfl, Drawn0.refl _⟩
end Go.Proofs.YtielnphmcaecdaaDoor.PAll
