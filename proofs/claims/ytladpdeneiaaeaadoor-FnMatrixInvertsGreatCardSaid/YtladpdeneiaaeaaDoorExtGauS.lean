import Derived.Test.YtladpdeneiaaeaaDoorInvFld
import Derived.Outline
import Derived.Deep.QuietTactic
import Derived.BigQuiet
/-! SwapRows of a matrix of the call's own, walked. -/
namespace Go.Proofs.YtladpdeneiaaeaaDoor.Inv
open Go.RowKit Go.Proofs.YtladpdeneiaaeaaDoorW.PrintWords Go.Proofs.YtladpdeneiaaeaaDoorW.PrintLast Go.Proofs.YtladpdeneiaaeaaDoorW.PrintMore
set_option linter.unusedVariables false
theorem nxt {i : Nat} (h : i < 9223372036854775807) : wrap64 ((i : Int) + 1) = ((i + 1 : Nat) : Int) := by unfold wrap64; omega
set_option maxHeartbeats 8000000 in
set_option maxRecDepth 100000 in
theorem swapRows.calls (base g n cap : Nat) (xs : Mat) (p q : Nat) (W : World) (hA : At W base g n cap xs) (hp : p < n) (hq : q < n) :
    Calls Tryd.prog 52 #[.slice (some ⟨g, 0, none⟩) n cap, .int .i64 (p : Int), .int .i64 (q : Int)] W fun e w' => e = .returned .nilIface ∧ At w' base g n cap (swp2 xs p q) ∧ Below base W w' := by
  obtain ⟨u, v, x1, x2, ⟨A1, k1, rfl⟩, ⟨A2, k2, rfl⟩, f1, f2, ⟨t, x3⟩, f3, h4⟩ := hA.swap hp hq
  generalize (xs.getD p []).length = L1 at x1 x3 f3 h4
  generalize (xs.getD q []).length = L2 at x2 h4
  have hb := hA.head
  have H4 := Aside0.mk h4
  have HB := Aside0.mk hb
  have a1 : decide ((p : Int) < 0) = false := decide_eq_false (by omega)
  have a2 : decide ((q : Int) < 0) = false := decide_eq_false (by omega)
  have a3 : decide ((n : Int) ≤ (p : Int)) = false := decide_eq_false (by omega)
  have a4 : decide ((n : Int) ≤ (q : Int)) = false := decide_eq_false (by omega)
  have a5 : decide (n ≤ p) = false := decide_eq_false (by omega)
  have a6 : decide (n ≤ q) = false := decide_eq_false (by omega)
  have c1 : decide ((p : Int) < (n : Int)) = true := decide_eq_true (by omega)
  have c2 : decide ((q : Int) < (n : Int)) = true := decide_eq_true (by omega)
  have c5 : (p : Int) < (n : Int) := by omega
  have c6 : (q : Int) < (n : Int) := by omega
  have c7 : 0 ≤ (p : Int) := by omega
  have c8 : 0 ≤ (q : Int) := by omega
  clear h4 hb hA hp hq
  go_enter Tryd.func52, Tryd.ntmps52
  go_wp2
  go_region
  all_goals go_wp2
  go_ret
  exact ⟨rfl, by repeat (first | exact H4.out | apply At.drew | apply At.drewN), by repeat (first | exact Below.refl _ _ | apply Below.drew | (refine Below.setCell ?_ HB.out _))⟩
end Go.Proofs.YtladpdeneiaaeaaDoor.Inv
