import Derived.Test.YtladpdeneiaaeaaDoorWMore
import Derived.Laws.BitsAllLaws
/-!
Whole numbers of 64 bits as natural numbers.
-/
namespace Go.Proofs.YtladpdeneiaaeaaDoor.Num
open Go.RowKit Go.Proofs.YtladpdeneiaaeaaDoorW.PrintWords Go.Proofs.YtladpdeneiaaeaaDoorW.PrintLast Go.Proofs.YtladpdeneiaaeaaDoorW.PrintMore
theorem wf_u64 {a : Int} (h : (Lit.int .u64 a).wf = true) : ∃ n : Nat, a = n ∧ n < 18446744073709551616 := by
  have h1 : 0 ≤ a ∧ a ≤ 18446744073709551615 := by simpa [Lit.wf, IntKind.min, IntKind.max, IntKind.signed, IntKind.bits] using h
  exact ⟨a.toNat, by omega, by omega⟩
theorem wf_u8 {a : Int} (h : (Lit.int .u8 a).wf = true) : ∃ n : Nat, a = n ∧ n < 256 := by
  have h1 : 0 ≤ a ∧ a ≤ 255 := by simpa [Lit.wf, IntKind.min, IntKind.max, IntKind.signed, IntKind.bits] using h
  exact ⟨a.toNat, by omega, by omega⟩
theorem wf_i64 {a : Int} (h : (Lit.int .i64 a).wf = true) : -9223372036854775808 ≤ a ∧ a ≤ 9223372036854775807 := by
  simpa [Lit.wf, IntKind.min, IntKind.max, IntKind.signed, IntKind.bits] using h
theorem u64w (x : Int) : IntKind.u64.wrap x = x % 18446744073709551616 := by simp [IntKind.wrap, IntKind.bits, IntKind.signed]
theorem u64n (n : Nat) : IntKind.u64.wrap (n : Int) = ((n % 18446744073709551616 : Nat) : Int) := by rw [u64w]; omega
theorem u64in {n : Nat} (h : n < 18446744073709551616) : IntKind.u64.wrap (n : Int) = (n : Int) := by rw [u64w]; omega
theorem w64 {n : Nat} (h : n < 9223372036854775808) : wrap64 (n : Int) = (n : Int) := by unfold wrap64; omega
theorem and64 (a b : Nat) (ha : a < 18446744073709551616) (hb : b < 18446744073709551616) : Go.bits .and .u64 (a : Int) (b : Int) = ((a &&& b : Nat) : Int) := u64_and_nat a b ha hb
theorem xor64 (a b : Nat) (ha : a < 18446744073709551616) (hb : b < 18446744073709551616) : Go.bits .xor .u64 (a : Int) (b : Int) = ((a ^^^ b : Nat) : Int) := u64_xor_nat a b ha hb
theorem shr64 (a b : Nat) : shr .u64 (a : Int) (b : Int) = ((a / 2 ^ min b 64 : Nat) : Int) := by
  show (a : Int) / 2 ^ min ((b : Int).toNat) 64 = _
  rw [Int.toNat_natCast, Int.natCast_ediv, Int.natCast_pow]
  rfl
theorem shr64' (a b : Nat) (ha : a < 18446744073709551616) : shr .u64 (a : Int) (b : Int) = ((a / 2 ^ b : Nat) : Int) := by
  rw [shr64]
  by_cases h : b ≤ 64
  · rw [Nat.min_eq_left h]
  · rw [Nat.min_eq_right (by omega), Nat.div_eq_of_lt ha, Nat.div_eq_of_lt]
    have : 2 ^ 64 ≤ 2 ^ b := Nat.pow_le_pow_right (by omega) (by omega)
    omega
theorem shl64 (a b : Nat) (hb : b ≤ 64) : shl .u64 (a : Int) (b : Int) = ((a * 2 ^ b % 18446744073709551616 : Nat) : Int) := by
  show IntKind.u64.wrap ((a : Int) * 2 ^ min ((b : Int).toNat) 64) = _
  rw [Int.toNat_natCast, Nat.min_eq_left hb, u64w, Int.natCast_emod, Int.natCast_mul, Int.natCast_pow]
  rfl
theorem u64sub {a b : Nat} (h : b ≤ a) (ha : a < 18446744073709551616) : IntKind.u64.wrap ((a : Int) - (b : Int)) = ((a - b : Nat) : Int) := by
  rw [← Int.natCast_sub h]; exact u64in (by omega)
theorem u64add {a b : Nat} (h : a + b < 18446744073709551616) : IntKind.u64.wrap ((a : Int) + (b : Int)) = ((a + b : Nat) : Int) := by
  rw [← Int.natCast_add]; exact u64in h
theorem u64mul {a b : Nat} (h : a * b < 18446744073709551616) : IntKind.u64.wrap ((a : Int) * (b : Int)) = ((a * b : Nat) : Int) := by
  rw [← Int.natCast_mul]; exact u64in h
theorem pow_lt64 {k : Nat} (hk : k ≤ 63) : 2 ^ k < 18446744073709551616 :=
  Nat.lt_of_le_of_lt (Nat.pow_le_pow_right (by decide) hk) (by decide)
theorem shl_one {k : Nat} (hk : k ≤ 63) : shl .u64 1 (k : Int) = ((2 ^ k : Nat) : Int) := by
  have := shl64 1 k (by omega)
  rw [Nat.one_mul, Nat.mod_eq_of_lt (pow_lt64 hk)] at this
  exact this
end Go.Proofs.YtladpdeneiaaeaaDoor.Num
