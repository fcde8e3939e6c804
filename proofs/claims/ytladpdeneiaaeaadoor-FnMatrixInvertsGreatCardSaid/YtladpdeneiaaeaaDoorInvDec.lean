import Derived.Test.YtladpdeneiaaeaaDoorInvMath
/-! What the contracts' conditions are decided by. -/
namespace Go.Proofs.YtladpdeneiaaeaaDoor.Inv
instance (a : Int) : Decidable (Byte a) := by unfold Byte; infer_instance
instance (L : Nat) (x : List Int) : Decidable (Rw L x) := by unfold Rw; infer_instance
instance (n L : Nat) (W : Mat) : Decidable (Sh n L W) := by unfold Sh; infer_instance
end Go.Proofs.YtladpdeneiaaeaaDoor.Inv
