import Derived.Test.YtladpdeneiaaeaaDoorFieldFns
import Derived.Test.YtladpdeneiaaeaaDoorPAllx1
import Derived.Test.YtladpdeneiaaeaaDoorNum
/-! The law on squares, over numbers alone. -/
namespace Go.Proofs.YtladpdeneiaaeaaDoor.Pure
open Go.RowKit Go.Proofs.YtladpdeneiaaeaaDoor.Num Go.Proofs.YtladpdeneiaaeaaDoor.Fld Go.Proofs.YtladpdeneiaaeaaDoor.PAll Go.Proofs.YtladpdeneiaaeaaDoorW.PrintWords Go.Proofs.YtladpdeneiaaeaaDoorW.PrintLast
def sqs : Nat → Nat → Nat
  | 0, a => a
  | n + 1, a => sqs n (mul a a)
theorem sqs_lt (n : Nat) {a : Nat} (h : a < 256) : sqs n a < 256 := by
  induction n generalizing a with
  | zero => exact h
  | succ n ih => exact ih (mul_lt _ _)
theorem sqs_E (n k : Nat) : sqs n (E k) = E (2 ^ n * k) := by
  induction n generalizing k with
  | zero => rw [Nat.pow_zero, Nat.one_mul]; rfl
  | succ n ih =>
    show sqs n (mul (E k) (E k)) = _
    rw [EE, ih]
    congr 1
    rw [Nat.pow_succ, Nat.mul_assoc]
    congr 1
    omega
theorem sqs_8 {a : Nat} (h : a < 256) : sqs 8 a = a := by
  by_cases h0 : a = 0
  · subst h0; rfl
  · obtain ⟨k, _, rfl⟩ := exists_E h h0
    rw [sqs_E, show 2 ^ 8 * k = k + 255 * k by omega, E_periods]
theorem sq_inj {a b : Nat} (ha : a < 256) (hb : b < 256) (h : mul a a = mul b b) : a = b := by
  have e : sqs 8 a = sqs 8 b := by show sqs 7 (mul a a) = sqs 7 (mul b b); rw [h]
  rwa [sqs_8 ha, sqs_8 hb] at e
theorem square {a : Nat} (ha : a < 256) : laws_FnFieldSquares_1.f (a : Int) = some ((mul a a : Nat) : Int) := by
  unfold laws_FnFieldSquares_1.f
  rw [impl_Mul_eq ha ha]; rfl
theorem loop {a b : Nat} (ha : a < 256) (hb : b < 256) (d : Nat) : ∀ (x i k : Nat), x < 256 → i + d = 8 → sqs d x = a → d < k → laws_FnFieldSquares.l0 k (a : Int) (b : Int) (x : Int) (i : Int) = some true := by
  induction d with
  | zero =>
    intro x i k hx hi hs hk
    obtain ⟨k, rfl⟩ : ∃ m, k = m + 1 := ⟨k - 1, by omega⟩
    have hs : x = a := hs
    subst hs
    unfold laws_FnFieldSquares.l0
    rw [if_neg (by omega), impl_Add_eq ha hb, Option.bind_some, square (xor_lt ha hb), Option.bind_some, square ha, Option.bind_some, square hb, Option.bind_some, impl_Add_eq (mul_lt _ _) (mul_lt _ _), Option.bind_some, if_pos (by rw [sq_add ha hb]), if_pos rfl]
    simp only [Option.bind_some]
    congr 1
    by_cases h : x = b
    · subst h; simp
    · have h1 : mul x x ≠ mul b b := fun e => h (sq_inj ha hb e)
      have h2 : ((mul x x : Nat) : Int) ≠ ((mul b b : Nat) : Int) := fun e => h1 (Int.ofNat_inj.mp e)
      have h3 : (x : Int) ≠ (b : Int) := fun e => h (Int.ofNat_inj.mp e)
      rw [beq_eq_false_iff_ne.mpr h2, beq_eq_false_iff_ne.mpr h3]; rfl
  | succ d ih =>
    intro x i k hx hi hs hk
    obtain ⟨k, rfl⟩ : ∃ m, k = m + 1 := ⟨k - 1, by omega⟩
    unfold laws_FnFieldSquares.l0
    rw [if_pos (by omega), square hx, Option.bind_some, show ((i : Int) + 1) = ((i + 1 : Nat) : Int) by omega, w64 (by omega)]
    exact ih _ _ _ (mul_lt _ _) (by omega) hs (by omega)
theorem FnFieldSquares : laws_FnFieldSquares.Pure := by
  intro a0 a1 h0 h1
  obtain ⟨a, rfl, ha⟩ := wf_u8 h0
  obtain ⟨b, rfl, hb⟩ := wf_u8 h1
  exact ⟨9, loop ha hb 8 a 0 9 ha rfl (sqs_8 ha) (by omega)⟩
end Go.Proofs.YtladpdeneiaaeaaDoor.Pure
