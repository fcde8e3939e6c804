import Derived.Test.YthfgegaakfgjkaaPFnFamilyx3
import Derived.Test.YthfgegaakfgjkaaNum
/-! The family law over numbers alone. -/
namespace Go.Proofs.Ythfgegaakfgjkaa.Pure
open Go.RowKit Go.Proofs.Ythfgegaakfgjkaa.Num Go.Proofs.Ythfgegaakfgjkaa.PFnFamily
theorem half_xor (n : Nat) : (n ^^^ 1) / 2 = n / 2 := by
  have h := Nat.xor_div_two (a := n) (b := 1)
  simpa using h
theorem FnFamily (x0 : S25) (w0 : ((Lit.int .u64 x0.f0).wf = true) ∧ ((Lit.int .u64 x0.f1).wf = true)) : laws_FnFamily.f x0.f0 x0.f1 = some true := by
  obtain ⟨l, i⟩ := x0
  obtain ⟨hl0, hi0⟩ := w0
  obtain ⟨l, rfl, hl⟩ := wf_u64 (a := l) hl0
  obtain ⟨i, rfl, hi⟩ := wf_u64 (a := i) hi0
  have hx : i ^^^ 1 < 18446744073709551616 := Nat.xor_lt_two_pow (n := 64) hi (by omega)
  have e1 : Go.bits .xor .u64 (i : Int) 1 = ((i ^^^ 1 : Nat) : Int) := xor64 i 1 hi (by omega)
  have e2 : Go.bits .xor .u64 ((i ^^^ 1 : Nat) : Int) 1 = (i : Int) := by
    have := xor64 (i ^^^ 1) 1 hx (by omega)
    rw [Nat.xor_assoc, Nat.xor_self, Nat.xor_zero] at this
    exact this
  have e3 : (((i ^^^ 1 : Nat) : Int)) / 2 = (i : Int) / 2 := by
    have := half_xor i
    omega
  simp [laws_FnFamily.f, impl_Sibling.f, impl_Parent.f, impl_toNode.f, impl_fromNode.f, compact_NewNodeID.f, compact_NodeID_Sibling.f, compact_NodeID_Parent.f, e1, e2, e3]
end Go.Proofs.Ythfgegaakfgjkaa.Pure
