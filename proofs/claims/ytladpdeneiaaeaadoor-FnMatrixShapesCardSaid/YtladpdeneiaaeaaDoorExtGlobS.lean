import Derived.Test.YtladpdeneiaaeaaDoorProg
import Derived.Test.YtladpdeneiaaeaaDoorWWords
import Derived.Test.YtladpdeneiaaeaaDoorWMore
import Derived.Outline
import Derived.Deep.QuietTactic
import Derived.BigQuiet
namespace Go.Proofs.YtladpdeneiaaeaaDoor.PShp
open Go.RowKit Go.Proofs.YtladpdeneiaaeaaDoorW.PrintWords
/-- A package-level variable holds an error that is not nil. -/
def Sent (g : Nat) (w : World) : Prop := ∃ t a, w.cell? ⟨g, 0, none⟩ = some (.iface t (.pointer (some a)))
theorem Sent.below {g : Nat} {w w' : World} (h : Sent g w) (b : Below w.heap.size w w') : Sent g w' := by
  obtain ⟨t, a, h⟩ := h
  exact ⟨t, a, pw_cell_below b h⟩
/-- The errors of 'Check', 'SwapRows' and 'SameSize'. -/
structure Glob (w : World) : Prop where
  s2 : Sent 2 w
  s3 : Sent 3 w
  s5 : Sent 5 w
  s6 : Sent 6 w
theorem Glob.below {w w' : World} (h : Glob w) (b : Below w.heap.size w w') : Glob w' := ⟨h.s2.below b, h.s3.below b, h.s5.below b, h.s6.below b⟩
theorem Glob.drewN {w : World} {n : Nat} (h : Glob w) : Glob (w.drewN n) := h.below (pw_below_drewN (Below.refl _ _) n)
theorem Glob.drew {w : World} (h : Glob w) : Glob w.drew := h.below (below_drew (Below.refl _ _))
end Go.Proofs.YtladpdeneiaaeaaDoor.PShp
