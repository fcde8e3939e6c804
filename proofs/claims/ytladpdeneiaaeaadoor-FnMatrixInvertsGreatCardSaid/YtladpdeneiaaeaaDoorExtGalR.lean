import Derived.Test.YtladpdeneiaaeaaDoorProg
import Derived.Test.YtladpdeneiaaeaaDoorWWords
import Derived.Test.YtladpdeneiaaeaaDoorWMore
import Derived.Outline
import Derived.Deep.QuietTactic
import Derived.BigQuiet
namespace Go.Proofs.YtladpdeneiaaeaaDoor.PRow
open Go.RowKit Go.Proofs.YtladpdeneiaaeaaDoorW.PrintWords
/-- An element times x, in the field of 256 elements. -/
def xt (x : Nat) : Nat := if x < 128 then 2 * x else (2 * x - 256) ^^^ 29
def pows : Nat → Nat → List Nat
  | 0, _ => []
  | n + 1, x => x :: pows n (xt x)
def place (a : Nat) : List Nat → Nat
  | [] => 0
  | x :: l => if x = a then 0 else place a l + 1
/-- The powers of x, and which power an element is. -/
def expN : List Nat := pows 256 1
def logN : List Nat := (List.range 256).map fun a => if a = 0 then 0 else place a expN
def expTab : List Int := expN.map Int.ofNat
def logTab : List Int := logN.map Int.ofNat
/-- The two tables hold what their texts lay. -/
def Glob0 (w : World) : Prop := (∀ j : Nat, j < 256 → w.cell? ⟨0, j, none⟩ = some (.int .u8 (logTab.getD j 0))) ∧ (∀ j : Nat, j < 256 → w.cell? ⟨1, j, none⟩ = some (.int .u8 (expTab.getD j 0)))
/-- A package-level variable holds an error that is not nil. -/
def Sent (g : Nat) (w : World) : Prop := ∃ t a, w.cell? ⟨g, 0, none⟩ = some (.iface t (.pointer (some a)))
theorem Sent.below {g : Nat} {w w' : World} (h : Sent g w) (b : Below w.heap.size w w') : Sent g w' := by
  obtain ⟨t, a, h⟩ := h
  exact ⟨t, a, pw_cell_below b h⟩
/-- The tables, and the errors of 'Check'. -/
structure Glob (w : World) : Prop where
  tabs : Glob0 w
  s2 : Sent 2 w
  s5 : Sent 5 w
  s6 : Sent 6 w
theorem Glob.below {w w' : World} (h : Glob w) (b : Below w.heap.size w w') : Glob w' :=
  ⟨⟨fun j hj => pw_cell_below b (h.tabs.1 j hj), fun j hj => pw_cell_below b (h.tabs.2 j hj)⟩, h.s2.below b, h.s5.below b, h.s6.below b⟩
theorem Glob.drewN {w : World} {n : Nat} (h : Glob w) : Glob (w.drewN n) := h.below (pw_below_drewN (Below.refl _ _) n)
theorem Glob.drew {w : World} (h : Glob w) : Glob w.drew := h.below (below_drew (Below.refl _ _))
theorem logTab_range : ∀ i : Nat, 0 ≤ logTab.getD i 0 ∧ logTab.getD i 0 ≤ 254 := by
  intro i
  by_cases h : i < 256
  · exact (show ∀ i : Fin 256, 0 ≤ logTab.getD i.1 0 ∧ logTab.getD i.1 0 ≤ 254 by decide +kernel) ⟨i, h⟩
  · rw [List.getD_eq_getElem?_getD, List.getElem?_eq_none (by have e : logTab.length = 256 := by decide +kernel
                                                              omega)]; decide
theorem expTab_range : ∀ i : Nat, 0 ≤ expTab.getD i 0 ∧ expTab.getD i 0 ≤ 255 := by
  intro i
  by_cases h : i < 256
  · exact (show ∀ i : Fin 256, 0 ≤ expTab.getD i.1 0 ∧ expTab.getD i.1 0 ≤ 255 by decide +kernel) ⟨i, h⟩
  · rw [List.getD_eq_getElem?_getD, List.getElem?_eq_none (by have e : expTab.length = 256 := by decide +kernel
                                                              omega)]; decide
def lg (a : Int) : Int := logTab.getD a.toNat 0
def sumLog (s : Int) : Int := if 255 ≤ s then s - 255 else s
def difLog (s : Int) : Int := if s < 0 then s + 255 else s
def reedsolomon_galMultiply.f (a0 : Int) (a1 : Int) : Option Int := if 0 ≤ a0 ∧ a0 < 256 ∧ 0 ≤ a1 ∧ a1 < 256 then (if a0 = 0 then some 0 else if a1 = 0 then some 0 else some (expTab.getD (sumLog (lg a0 + lg a1)).toNat 0)) else none
def reedsolomon_galDivide.f (a0 : Int) (a1 : Int) : Option Int := if 0 ≤ a0 ∧ a0 < 256 ∧ 0 < a1 ∧ a1 < 256 then (if a0 = 0 then some 0 else some (expTab.getD (difLog (lg a0 - lg a1)).toNat 0)) else none
set_option maxHeartbeats 4000000 in
theorem reedsolomon_galMultiply.calls (a0 : Int) (a1 : Int) (r : Int) (w : World) (hG : Glob w) (h : reedsolomon_galMultiply.f a0 a1 = some r) :
    Calls Tryd.prog 44 #[.int .u8 a0, .int .u8 a1] w fun e w' => e = .returned (.int .u8 r) ∧ Drawn0 w w' := by
  unfold reedsolomon_galMultiply.f at h
  by_cases hb : 0 ≤ a0 ∧ a0 < 256 ∧ 0 ≤ a1 ∧ a1 < 256
  · rw [if_pos hb] at h
    obtain ⟨h00, h01, h10, h11⟩ := hb
    by_cases h0 : a0 = 0
    · rw [if_pos h0] at h
      injection h with h
      subst h0 h
      go_enter Tryd.func44, Tryd.ntmps44
      go_wp2
      go_ret
      exact ⟨rfl, by repeat (first | exact Drawn0.refl _ | apply Drawn0.step)⟩
    · rw [if_neg h0] at h
      have c0 : (a0 == 0) = false := beq_eq_false_iff_ne.mpr h0
      by_cases h1 : a1 = 0
      · rw [if_pos h1] at h
        injection h with h
        subst h1 h
        go_enter Tryd.func44, Tryd.ntmps44
        go_wp2
        go_ret
        exact ⟨rfl, by repeat (first | exact Drawn0.refl _ | apply Drawn0.step)⟩
      · rw [if_neg h1] at h
        injection h with h
        have c1 : (a1 == 0) = false := beq_eq_false_iff_ne.mpr h1
        have k0 := hG.tabs.1 a0.toNat (by omega)
        have k1 := hG.tabs.1 a1.toNat (by omega)
        have b0 := logTab_range a0.toNat
        have b1 := logTab_range a1.toNat
        have kx := hG.tabs.2
        unfold lg at h
        generalize logTab.getD a0.toNat 0 = x0 at *
        generalize logTab.getD a1.toNat 0 = x1 at *
        obtain ⟨b00, b01⟩ := b0
        obtain ⟨b10, b11⟩ := b1
        by_cases hs : 255 ≤ x0 + x1
        · have hd : decide (255 ≤ x0 + x1) = true := decide_eq_true hs
          have e : sumLog (x0 + x1) = x0 + x1 - 255 := if_pos hs
          rw [e] at h
          have kx := kx (x0 + x1 - 255).toNat (by omega)
          rw [h] at kx
          have hr := expTab_range (x0 + x1 - 255).toNat
          rw [h] at hr
          obtain ⟨hr0, hr1⟩ := hr
          clear h e
          go_enter Tryd.func44, Tryd.ntmps44
          go_wp2
          go_quiet (fail)
          go_wp2
          go_ret
          exact ⟨rfl, by repeat (first | exact Drawn0.refl _ | apply Drawn0.step)⟩
        · have hd : decide (255 ≤ x0 + x1) = false := decide_eq_false hs
          have e : sumLog (x0 + x1) = x0 + x1 := if_neg hs
          rw [e] at h
          have kx := kx (x0 + x1).toNat (by omega)
          rw [h] at kx
          have hr := expTab_range (x0 + x1).toNat
          rw [h] at hr
          obtain ⟨hr0, hr1⟩ := hr
          clear h e
          go_enter Tryd.func44, Tryd.ntmps44
          go_wp2
          go_quiet (fail)
          go_wp2
          go_ret
          exact ⟨rfl, by repeat (first | exact Drawn0.refl _ | apply Drawn0.step)⟩
  · rw [if_neg hb] at h; cases h
end Go.Proofs.YtladpdeneiaaeaaDoor.PRow
