import Derived.Test.YtladpdeneiaaeaaDoorExtGalR
/-!
The field of 256 elements over natural numbers: the powers of x, the product, its laws.
-/
namespace Go.Proofs.YtladpdeneiaaeaaDoor.FldR
open Go.Proofs.YtladpdeneiaaeaaDoor.PRow
/-- The k-th power of x, times a. -/
def up : Nat → Nat → Nat
  | 0, a => a
  | k + 1, a => up k (xt a)
def E (k : Nat) : Nat := up k 1
def L (a : Nat) : Nat := logN.getD a 0
theorem up_add (j k a : Nat) : up (j + k) a = up j (up k a) := by
  induction k generalizing a with
  | zero => rfl
  | succ k ih => exact ih (xt a)
theorem up_comm (j k a : Nat) : up j (up k a) = up k (up j a) := by rw [← up_add, ← up_add, Nat.add_comm]
theorem xt_lt {a : Nat} (h : a < 256) : xt a < 256 := (show ∀ a : Fin 256, xt a.1 < 256 by decide +kernel) ⟨a, h⟩
theorem xt_ne {a : Nat} (h : a < 256) (h0 : a ≠ 0) : xt a ≠ 0 := (show ∀ a : Fin 256, a.1 ≠ 0 → xt a.1 ≠ 0 by decide +kernel) ⟨a, h⟩ h0
theorem up_lt (k : Nat) {a : Nat} (h : a < 256) : up k a < 256 := by
  induction k generalizing a with
  | zero => exact h
  | succ k ih => exact ih (xt_lt h)
theorem up_ne (k : Nat) {a : Nat} (h : a < 256) (h0 : a ≠ 0) : up k a ≠ 0 := by
  induction k generalizing a with
  | zero => exact h0
  | succ k ih => exact ih (xt_lt h) (xt_ne h h0)
theorem up_zero (k : Nat) : up k 0 = 0 := by
  induction k with
  | zero => rfl
  | succ k ih => exact ih
theorem E_lt (k : Nat) : E k < 256 := up_lt k (by decide)
theorem E_ne (k : Nat) : E k ≠ 0 := up_ne k (by decide) (by decide)
theorem E_255 : E 255 = 1 := by decide +kernel
theorem E_add (j k : Nat) : E (j + k) = up j (E k) := up_add j k 1
theorem E_period (k : Nat) : E (k + 255) = E k := by rw [E_add, E_255]; rfl
theorem E_periods (k j : Nat) : E (k + 255 * j) = E k := by
  induction j with
  | zero => rfl
  | succ j ih => rw [show k + 255 * (j + 1) = k + 255 * j + 255 by omega, E_period, ih]
theorem L_lt (a : Nat) (h : a < 256) : L a < 255 := (show ∀ a : Fin 256, L a.1 < 255 by decide +kernel) ⟨a, h⟩
theorem E_L {a : Nat} (h : a < 256) (h0 : a ≠ 0) : E (L a) = a := (show ∀ a : Fin 256, a.1 ≠ 0 → E (L a.1) = a.1 by decide +kernel) ⟨a, h⟩ h0
theorem pows_get (n x i : Nat) (h : i < n) : (pows n x).getD i 0 = up i x := by
  induction i generalizing n x with
  | zero => cases n with
    | zero => omega
    | succ n => rfl
  | succ i ih => cases n with
    | zero => omega
    | succ n => exact ih n (xt x) (by omega)
theorem expN_get {i : Nat} (h : i < 256) : expN.getD i 0 = E i := pows_get 256 1 i h
/-- The product. -/
def mul (a b : Nat) : Nat := if a = 0 then 0 else if b = 0 then 0 else E (L a + L b)
theorem mul_zero (a : Nat) : mul a 0 = 0 := by unfold mul; split <;> rfl
theorem zero_mul (b : Nat) : mul 0 b = 0 := rfl
theorem mul_comm (a b : Nat) : mul a b = mul b a := by
  unfold mul; rw [Nat.add_comm]; by_cases h : a = 0 <;> by_cases k : b = 0 <;> simp [h, k]
theorem mul_lt (a b : Nat) : mul a b < 256 := by
  unfold mul; split
  · decide
  · split
    · decide
    · exact E_lt _
/-- The product with a power of x. -/
theorem mul_up {a b : Nat} (ha : a < 256) (h0 : b ≠ 0) : mul a b = up (L b) a := by
  unfold mul
  by_cases h : a = 0
  · rw [if_pos h, h, up_zero]
  · rw [if_neg h, if_neg h0, Nat.add_comm, E_add, E_L ha h]
theorem mul_E {a : Nat} (ha : a < 256) (k : Nat) : mul a (E k) = up k a := by
  by_cases h : a = 0
  · rw [h, up_zero]; rfl
  · rw [mul_comm, mul_up (E_lt k) h]
    show up (L a) (up k 1) = _
    rw [up_comm]
    exact congrArg (up k) (E_L ha h)
theorem EE (j k : Nat) : mul (E j) (E k) = E (j + k) := by rw [mul_E (E_lt j), Nat.add_comm, E_add]
theorem exists_E {a : Nat} (h : a < 256) (h0 : a ≠ 0) : ∃ k, k < 255 ∧ a = E k := ⟨L a, L_lt a h, (E_L h h0).symm⟩
theorem mul_ne {a b : Nat} (h : a ≠ 0) (k : b ≠ 0) : mul a b ≠ 0 := by unfold mul; rw [if_neg h, if_neg k]; exact E_ne _
theorem mul_assoc {a b c : Nat} (ha : a < 256) (hb : b < 256) (hc : c < 256) : mul (mul a b) c = mul a (mul b c) := by
  by_cases h : c = 0
  · subst h; rw [mul_zero, mul_zero, mul_zero]
  · by_cases k : b = 0
    · subst k; rw [mul_zero, zero_mul, mul_zero]
    · obtain ⟨j, _, rfl⟩ := exists_E hc h
      obtain ⟨i, _, rfl⟩ := exists_E hb k
      rw [mul_E (mul_lt _ _), EE, mul_E ha, mul_E ha, Nat.add_comm, up_add]
theorem mul_one {a : Nat} (h : a < 256) : mul a 1 = a := mul_E h 0
/-- Sums. -/
theorem xt_eq {a : Nat} (h : a < 256) : xt a = ((a <<< 1) % 2 ^ 8) ^^^ (if a.testBit 7 then 29 else 0) :=
  (show ∀ a : Fin 256, xt a.1 = ((a.1 <<< 1) % 2 ^ 8) ^^^ (if a.1.testBit 7 then 29 else 0) by decide +kernel) ⟨a, h⟩
theorem xor_lt {a b : Nat} (ha : a < 256) (hb : b < 256) : a ^^^ b < 256 := Nat.xor_lt_two_pow (n := 8) ha hb
theorem pick_xor (p q : Bool) (c : Nat) : (if (p ^^ q) = true then c else 0) = (if p = true then c else 0) ^^^ (if q = true then c else 0) := by
  cases p <;> cases q <;> simp
theorem xt_xor {a b : Nat} (ha : a < 256) (hb : b < 256) : xt (a ^^^ b) = xt a ^^^ xt b := by
  rw [xt_eq ha, xt_eq hb, xt_eq (xor_lt ha hb), Nat.shiftLeft_xor_distrib, Nat.xor_mod_two_pow, Nat.testBit_xor]
  rw [pick_xor (a.testBit 7) (b.testBit 7) 29]
  ac_rfl
theorem up_xor (k : Nat) {a b : Nat} (ha : a < 256) (hb : b < 256) : up k (a ^^^ b) = up k a ^^^ up k b := by
  induction k generalizing a b with
  | zero => rfl
  | succ k ih =>
    show up k (xt (a ^^^ b)) = up k (xt a) ^^^ up k (xt b)
    rw [xt_xor ha hb, ih (xt_lt ha) (xt_lt hb)]
theorem add_mul {a b c : Nat} (ha : a < 256) (hb : b < 256) (hc : c < 256) : mul (a ^^^ b) c = mul a c ^^^ mul b c := by
  by_cases h : c = 0
  · subst h; rw [mul_zero, mul_zero, mul_zero]; rfl
  · rw [mul_up (xor_lt ha hb) h, mul_up ha h, mul_up hb h, up_xor _ ha hb]
theorem mul_add {a b c : Nat} (ha : a < 256) (hb : b < 256) (hc : c < 256) : mul c (a ^^^ b) = mul c a ^^^ mul c b := by
  rw [mul_comm, add_mul ha hb hc, mul_comm a, mul_comm b]
/-- Squares. -/
theorem sq_add {a b : Nat} (ha : a < 256) (hb : b < 256) : mul (a ^^^ b) (a ^^^ b) = mul a a ^^^ mul b b := by
  rw [add_mul ha hb (xor_lt ha hb), mul_add ha hb ha, mul_add ha hb hb, mul_comm b a]
  rw [Nat.xor_assoc, ← Nat.xor_assoc (mul a b), Nat.xor_self, Nat.zero_xor]
/-- The quotient. -/
def div (a b : Nat) : Nat := if a = 0 then 0 else E (L a + 255 - L b)
theorem div_lt (a b : Nat) : div a b < 256 := by
  unfold div; split
  · decide
  · exact E_lt _
theorem div_mul {a b : Nat} (ha : a < 256) (hb : b < 256) (h0 : b ≠ 0) : mul (div a b) b = a := by
  unfold div
  by_cases h : a = 0
  · rw [if_pos h, h, zero_mul]
  · rw [if_neg h]
    have hl := L_lt b hb
    conv => lhs; arg 2; rw [← E_L hb h0]
    rw [EE, show L a + 255 - L b + L b = L a + 255 by omega, E_period, E_L ha h]
end Go.Proofs.YtladpdeneiaaeaaDoor.FldR
