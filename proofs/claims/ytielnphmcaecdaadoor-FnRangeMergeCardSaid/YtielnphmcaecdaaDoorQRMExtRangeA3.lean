-- Written by a program of this session (wip/tools)
import Derived.Test.YtielnphmcaecdaaDoorQRMV0
import Derived.Laws.BitsAllLaws
import Derived.Test.YtielnphmcaecdaaDoorQRMTreeMem
import Derived.Test.YtielnphmcaecdaaDoorQRMPAllx2
import Derived.Outline
import Derived.Deep.QuietTactic
import Derived.BigQuiet
import Derived.Deep.RegionWith
import Derived.Deep.RegionLaw
import Derived.IntWalk
import Derived.Test.YtielnphmcaecdaaDoorQRMExtRangeA
import Derived.Test.YtielnphmcaecdaaDoorQRMPAllx5
import Derived.Test.YtielnphmcaecdaaDoorQRMExtTz
namespace Go.Proofs.YtielnphmcaecdaaDoor.Num
open Go.RowKit Go.Proofs.YtielnphmcaecdaaDoorW.PrintWords Go.Proofs.YtielnphmcaecdaaDoorW.PrintLast Go.Proofs.YtielnphmcaecdaaDoorW.PrintMore
theorem wf_u64 {a : Int} (h : (Lit.int .u64 a).wf = true) : ∃ n : Nat, a = n ∧ n < 18446744073709551616 := by
  have h1 : 0 ≤ a ∧ a ≤ 18446744073709551615 := by simpa [Lit.wf, IntKind.min, IntKind.max, IntKind.signed, IntKind.bits] using h
  exact ⟨a.toNat, by omega, by omega⟩
theorem u64w (x : Int) : IntKind.u64.wrap x = x % 18446744073709551616 := by simp [IntKind.wrap, IntKind.bits, IntKind.signed]
theorem u64n (n : Nat) : IntKind.u64.wrap (n : Int) = ((n % 18446744073709551616 : Nat) : Int) := by rw [u64w]; omega
theorem u64in {n : Nat} (h : n < 18446744073709551616) : IntKind.u64.wrap (n : Int) = (n : Int) := by rw [u64w]; omega
theorem w64 {n : Nat} (h : n < 9223372036854775808) : wrap64 (n : Int) = (n : Int) := by unfold wrap64; omega
theorem and64 (a b : Nat) (ha : a < 18446744073709551616) (hb : b < 18446744073709551616) : Go.bits .and .u64 (a : Int) (b : Int) = ((a &&& b : Nat) : Int) := u64_and_nat a b ha hb
theorem xor64 (a b : Nat) (ha : a < 18446744073709551616) (hb : b < 18446744073709551616) : Go.bits .xor .u64 (a : Int) (b : Int) = ((a ^^^ b : Nat) : Int) := u64_xor_nat a b ha hb
theorem shr64 (a b : Nat) : shr .u64 (a : Int) (b : Int) = ((a / 2 ^ min b 64 : Nat) : Int) := by
  show (a : Int) / 2 ^ min ((b : Int).toNat) 64 = _
  rw [Int.toNat_natCast, Int.natCast_ediv, Int.natCast_pow]
  rfl
theorem shr64' (a b : Nat) (ha : a < 18446744073709551616) : shr .u64 (a : Int) (b : Int) = ((a / 2 ^ b : Nat) : Int) := by
  rw [shr64]
  by_cases h : b ≤ 64
  · rw [Nat.min_eq_left h]
  · rw [Nat.min_eq_right (by omega), Nat.div_eq_of_lt ha, Nat.div_eq_of_lt]
    have : 2 ^ 64 ≤ 2 ^ b := Nat.pow_le_pow_right (by omega) (by omega)
    omega
theorem shl64 (a b : Nat) (hb : b ≤ 64) : shl .u64 (a : Int) (b : Int) = ((a * 2 ^ b % 18446744073709551616 : Nat) : Int) := by
  show IntKind.u64.wrap ((a : Int) * 2 ^ min ((b : Int).toNat) 64) = _
  rw [Int.toNat_natCast, Nat.min_eq_left hb, u64w, Int.natCast_emod, Int.natCast_mul, Int.natCast_pow]
  rfl
theorem u64sub {a b : Nat} (h : b ≤ a) (ha : a < 18446744073709551616) : IntKind.u64.wrap ((a : Int) - (b : Int)) = ((a - b : Nat) : Int) := by
  rw [← Int.natCast_sub h]; exact u64in (by omega)
theorem u64add {a b : Nat} (h : a + b < 18446744073709551616) : IntKind.u64.wrap ((a : Int) + (b : Int)) = ((a + b : Nat) : Int) := by
  rw [← Int.natCast_add]; exact u64in h
theorem pow_lt64 {k : Nat} (hk : k ≤ 63) : 2 ^ k < 18446744073709551616 :=
  Nat.lt_of_le_of_lt (Nat.pow_le_pow_right (by decide) hk) (by decide)
theorem shl_one {k : Nat} (hk : k ≤ 63) : shl .u64 1 (k : Int) = ((2 ^ k : Nat) : Int) := by
  have := shl64 1 k (by omega)
  rw [Nat.one_mul, Nat.mod_eq_of_lt (pow_lt64 hk)] at this
  exact this
end Go.Proofs.YtielnphmcaecdaaDoor.Num
namespace Go.Proofs.YtielnphmcaecdaaDoor.Mth
def blen (n : Nat) : Nat := if n = 0 then 0 else blen (n / 2) + 1
def ones (n : Nat) : Nat := if n = 0 then 0 else n % 2 + ones (n / 2)
theorem blen_zero : blen 0 = 0 := by rw [blen, if_pos rfl]
theorem blen_pos {n : Nat} (h : 0 < n) : blen n = blen (n / 2) + 1 := by rw [blen, if_neg (by omega)]
theorem ones_zero : ones 0 = 0 := by rw [ones, if_pos rfl]
theorem ones_half (n : Nat) : ones n = n % 2 + ones (n / 2) := by
  by_cases h : n = 0
  · subst h; simp [ones_zero]
  · rw [ones, if_neg h]
theorem blen_le {n m : Nat} : blen n ≤ m ↔ n < 2 ^ m := by
  induction m generalizing n with
  | zero =>
    by_cases h : n = 0
    · subst h; simp [blen_zero]
    · rw [blen_pos (by omega)]; simp; omega
  | succ m ih =>
    by_cases h : n = 0
    · subst h; simp [blen_zero, Nat.pow_pos]
    · rw [blen_pos (by omega), Nat.pow_succ]
      have := ih (n := n / 2)
      omega
theorem xor_lt_iff (a b m : Nat) : a ^^^ b < 2 ^ m ↔ a / 2 ^ m = b / 2 ^ m := by
  constructor
  · intro h
    have h1 := Nat.xor_div_two_pow (a := a) (b := b) (n := m)
    rw [Nat.div_eq_of_lt h] at h1
    have h2 : (a / 2 ^ m ^^^ b / 2 ^ m) ^^^ b / 2 ^ m = 0 ^^^ b / 2 ^ m := by rw [← h1]
    rwa [Nat.xor_assoc, Nat.xor_self, Nat.xor_zero, Nat.zero_xor] at h2
  · intro h
    have h1 := Nat.xor_div_two_pow (a := a) (b := b) (n := m)
    rw [h, Nat.xor_self] at h1
    exact (Nat.div_eq_zero_iff_lt (Nat.two_pow_pos m)).1 h1
def fork (i n : Nat) : Nat := blen (i ^^^ n)
theorem fork_le {i n m : Nat} : fork i n ≤ m ↔ i / 2 ^ m = n / 2 ^ m := by rw [fork, blen_le, xor_lt_iff]
theorem fork_eq (i n : Nat) : i / 2 ^ fork i n = n / 2 ^ fork i n := fork_le.1 (Nat.le_refl _)
theorem blen_lt64 {n : Nat} (h : n < 18446744073709551616) : blen n ≤ 64 := blen_le.2 h
theorem ones_le (n k : Nat) (h : n < 2 ^ k) : ones n ≤ k := by
  induction k generalizing n with
  | zero => have : n = 0 := by simpa using h
            subst this; simp [ones_zero]
  | succ k ih =>
    have := ih (n / 2) (by rw [Nat.pow_succ] at h; omega)
    rw [ones_half]; omega
theorem and_split (x a b : Nat) (ha : a < 256) : x &&& (a + 256 * b) = (x % 256 &&& a) + 256 * (x / 256 &&& b) := by
  have h1 := Nat.and_div_two_pow (a := x) (b := a + 256 * b) (n := 8)
  have h2 := Nat.and_mod_two_pow (a := x) (b := a + 256 * b) (n := 8)
  rw [show (2 : Nat) ^ 8 = 256 from rfl] at h1 h2
  rw [show (a + 256 * b) / 256 = b by omega] at h1
  rw [show (a + 256 * b) % 256 = a by omega] at h2
  omega
def msk (v : Nat) : Nat → Nat
  | 0 => 0
  | k + 1 => v + 256 * msk v k
def st1 (k x : Nat) : Nat := (x / 2 &&& msk 85 k) + (x &&& msk 85 k)
def st2 (k x : Nat) : Nat := (x / 4 &&& msk 51 k) + (x &&& msk 51 k)
def st3 (k x : Nat) : Nat := (x / 16 + x) &&& msk 15 k
theorem byte1 : ∀ b < 2, ∀ c < 256, (c / 2 + 128 * b) &&& 85 = c / 2 &&& 85 := by decide +kernel
theorem byte2 : ∀ b < 4, ∀ c < 256, (c / 4 + 64 * b) &&& 51 = c / 4 &&& 51 := by decide +kernel
def by1 (c : Nat) : Nat := (c / 2 &&& 85) + (c &&& 85)
def by2 (c : Nat) : Nat := (c / 4 &&& 51) + (c &&& 51)
theorem byte3 : ∀ c < 256, by1 c < 256 ∧ by2 (by1 c) ≤ 68 ∧ by2 (by1 c) % 16 ≤ 4 ∧ (by2 (by1 c) / 16 + by2 (by1 c)) % 16 = ones c ∧ ones c ≤ 8 := by decide +kernel
theorem st1_step (k x : Nat) : st1 (k + 1) x = by1 (x % 256) + 256 * st1 k (x / 256) := by
  have h := byte1 (x / 256 % 2) (by omega) (x % 256) (by omega)
  unfold st1 by1
  rw [show msk 85 (k + 1) = 85 + 256 * msk 85 k from rfl]
  rw [and_split _ _ _ (by omega), and_split _ _ _ (by omega), show x / 2 % 256 = x % 256 / 2 + 128 * (x / 256 % 2) by omega, h, show x / 2 / 256 = x / 256 / 2 by omega]
  omega
theorem st2_step (k x : Nat) : st2 (k + 1) x = by2 (x % 256) + 256 * st2 k (x / 256) := by
  have h := byte2 (x / 256 % 4) (by omega) (x % 256) (by omega)
  unfold st2 by2
  rw [show msk 51 (k + 1) = 51 + 256 * msk 51 k from rfl]
  rw [and_split _ _ _ (by omega), and_split _ _ _ (by omega), show x / 4 % 256 = x % 256 / 4 + 64 * (x / 256 % 4) by omega, h, show x / 4 / 256 = x / 256 / 4 by omega]
  omega
theorem ones_byte (k x : Nat) : ones (x % 2 ^ (k + 1)) = x % 2 + ones (x / 2 % 2 ^ k) := by
  rw [ones_half, Nat.pow_succ, Nat.mul_comm, Nat.mod_mul]
  have : 2 * (x / 2 % 2 ^ k) + x % 2 = x % 2 + 2 * (x / 2 % 2 ^ k) := by omega
  rw [show (x % 2 + 2 * (x / 2 % 2 ^ k)) / 2 = x / 2 % 2 ^ k by omega, show (x % 2 + 2 * (x / 2 % 2 ^ k)) % 2 = x % 2 by omega]
theorem ones_split (k x : Nat) : ones x = ones (x % 2 ^ k) + ones (x / 2 ^ k) := by
  induction k generalizing x with
  | zero => simp [Nat.mod_one, ones_zero]
  | succ k ih =>
    rw [ones_byte, ones_half x, ih (x / 2), Nat.div_div_eq_div_mul, Nat.pow_succ, Nat.mul_comm 2]; omega
def cnt : Nat → Nat → Nat
  | 0, _ => 0
  | k + 1, x => ones (x % 256) + 256 * cnt k (x / 256)
theorem st2_low (k x : Nat) : st2 k (st1 k x) % 16 ≤ 4 := by
  cases k with
  | zero => simp [st2, st1, msk]
  | succ k =>
    have h := byte3 (x % 256) (by omega)
    rw [st1_step, st2_step, show (by1 (x % 256) + 256 * st1 k (x / 256)) % 256 = by1 (x % 256) by omega]
    omega
theorem st3_all (k x : Nat) : st3 k (st2 k (st1 k x)) = cnt k x := by
  induction k generalizing x with
  | zero => simp [st3, msk, cnt]
  | succ k ih =>
    have h := byte3 (x % 256) (by omega)
    have hl := st2_low k (x / 256)
    rw [st1_step, st2_step, show (by1 (x % 256) + 256 * st1 k (x / 256)) % 256 = by1 (x % 256) by omega, show (by1 (x % 256) + 256 * st1 k (x / 256)) / 256 = st1 k (x / 256) by omega, cnt, ← ih (x / 256)]
    generalize hy : st2 k (st1 k (x / 256)) = y at *
    generalize hc : by2 (by1 (x % 256)) = c at *
    unfold st3
    rw [show msk 15 (k + 1) = 15 + 256 * msk 15 k from rfl]
    have e1 : ((c + 256 * y) / 16 + (c + 256 * y)) / 256 = y / 16 + y := by omega
    have e2 : ((c + 256 * y) / 16 + (c + 256 * y)) % 256 = c / 16 + c + 16 * (y % 16) := by omega
    rw [and_split _ _ _ (by omega), e1, e2]
    have e3 : (c / 16 + c + 16 * (y % 16)) &&& 15 = (c / 16 + c) % 16 := by
      have := Nat.and_two_pow_sub_one_eq_mod (c / 16 + c + 16 * (y % 16)) 4
      rw [show (2 : Nat) ^ 4 - 1 = 15 from rfl] at this
      rw [this]; omega
    rw [e3]; omega
theorem div_of {a m : Nat} (r : Nat) (h : a < m) : (a + m * r) / m = r := by rw [Nat.add_mul_div_left _ _ (by omega), Nat.div_eq_of_lt h, Nat.zero_add]
theorem lin1 (c0 c1 c2 c3 c4 c5 c6 c7 : Nat) : (c0 + 256 * (c1 + 256 * (c2 + 256 * (c3 + 256 * (c4 + 256 * (c5 + 256 * (c6 + 256 * (c7 + 256 * 0)))))))) + (c1 + 256 * (c2 + 256 * (c3 + 256 * (c4 + 256 * (c5 + 256 * (c6 + 256 * (c7 + 256 * 0)))))))
    = ((c0 + c1) + 256 * (c1 + c2)) + 65536 * ((c2 + c3) + 256 * (c3 + c4) + 65536 * ((c4 + c5) + 256 * (c5 + c6) + 65536 * ((c6 + c7) + 256 * c7))) := by omega
theorem lin2 (c0 c1 c2 c3 c4 c5 c6 c7 : Nat) : (((c0 + c1) + 256 * (c1 + c2)) + 65536 * ((c2 + c3) + 256 * (c3 + c4) + 65536 * ((c4 + c5) + 256 * (c5 + c6) + 65536 * ((c6 + c7) + 256 * c7)))) + ((c2 + c3) + 256 * (c3 + c4) + 65536 * ((c4 + c5) + 256 * (c5 + c6) + 65536 * ((c6 + c7) + 256 * c7)))
    = ((c0 + c1 + c2 + c3) + 256 * (c1 + c2 + c3 + c4) + 65536 * (c2 + c3 + c4 + c5) + 16777216 * (c3 + c4 + c5 + c6)) + 4294967296 * ((c4 + c5 + c6 + c7) + 256 * (c5 + c6 + c7) + 65536 * (c6 + c7) + 16777216 * c7) := by omega
theorem lin3 (c0 c1 c2 c3 c4 c5 c6 c7 : Nat) : (((c0 + c1 + c2 + c3) + 256 * (c1 + c2 + c3 + c4) + 65536 * (c2 + c3 + c4 + c5) + 16777216 * (c3 + c4 + c5 + c6)) + 4294967296 * ((c4 + c5 + c6 + c7) + 256 * (c5 + c6 + c7) + 65536 * (c6 + c7) + 16777216 * c7)) + ((c4 + c5 + c6 + c7) + 256 * (c5 + c6 + c7) + 65536 * (c6 + c7) + 16777216 * c7)
    = (c0 + (c1 + (c2 + (c3 + (c4 + (c5 + (c6 + c7))))))) + 128 * (2 * (c1 + c2 + c3 + c4) + 512 * (c2 + c3 + c4 + c5) + 131072 * (c3 + c4 + c5 + c6) + 33554432 * ((c4 + c5 + c6 + c7) + 256 * (c5 + c6 + c7) + 65536 * (c6 + c7) + 16777216 * c7) + 2 * (c5 + c6 + c7) + 512 * (c6 + c7) + 131072 * c7) := by omega
theorem spread (c0 c1 c2 c3 c4 c5 c6 c7 : Nat) (b0 : c0 ≤ 8) (b1 : c1 ≤ 8) (b2 : c2 ≤ 8) (b3 : c3 ≤ 8) (b4 : c4 ≤ 8) (b5 : c5 ≤ 8) (b6 : c6 ≤ 8) (b7 : c7 ≤ 8) :
    let y := c0 + 256 * (c1 + 256 * (c2 + 256 * (c3 + 256 * (c4 + 256 * (c5 + 256 * (c6 + 256 * (c7 + 256 * 0)))))))
    let y1 := y + y / 256; let y2 := y1 + y1 / 65536; let y3 := y2 + y2 / 4294967296
    y3 % 128 = c0 + (c1 + (c2 + (c3 + (c4 + (c5 + (c6 + c7)))))) ∧ y3 < 9223372036854775808 ∧ y2 < 18446744073709551616 ∧ y1 < 18446744073709551616 ∧ y < 18446744073709551616 := by
  dsimp only
  rw [div_of (a := c0) (m := 256) _ (by omega), lin1, div_of (m := 65536) _ (by omega), lin2, div_of (m := 4294967296) _ (by omega), lin3, Nat.add_mul_mod_self_left]
  refine ⟨Nat.mod_eq_of_lt (by omega), by omega, by omega, by omega, by omega⟩
theorem swar (x : Nat) (hx : x < 18446744073709551616) : let y := cnt 8 x; let y1 := y + y / 256; let y2 := y1 + y1 / 65536; let y3 := y2 + y2 / 4294967296; y3 % 128 = ones x ∧ y3 < 9223372036854775808 ∧ y2 < 18446744073709551616 ∧ y1 < 18446744073709551616 ∧ y < 18446744073709551616 := by
  have s0 := ones_split 8 x
  have s1 := ones_split 8 (x / 256)
  have s2 := ones_split 8 (x / 256 / 256)
  have s3 := ones_split 8 (x / 256 / 256 / 256)
  have s4 := ones_split 8 (x / 256 / 256 / 256 / 256)
  have s5 := ones_split 8 (x / 256 / 256 / 256 / 256 / 256)
  have s6 := ones_split 8 (x / 256 / 256 / 256 / 256 / 256 / 256)
  rw [show (2 : Nat) ^ 8 = 256 from rfl] at s0 s1 s2 s3 s4 s5 s6
  have e7 : x / 256 / 256 / 256 / 256 / 256 / 256 / 256 % 256 = x / 256 / 256 / 256 / 256 / 256 / 256 / 256 := by omega
  have b0 := (byte3 (x % 256) (by omega)).2.2.2.2
  have b1 := (byte3 (x / 256 % 256) (by omega)).2.2.2.2
  have b2 := (byte3 (x / 256 / 256 % 256) (by omega)).2.2.2.2
  have b3 := (byte3 (x / 256 / 256 / 256 % 256) (by omega)).2.2.2.2
  have b4 := (byte3 (x / 256 / 256 / 256 / 256 % 256) (by omega)).2.2.2.2
  have b5 := (byte3 (x / 256 / 256 / 256 / 256 / 256 % 256) (by omega)).2.2.2.2
  have b6 := (byte3 (x / 256 / 256 / 256 / 256 / 256 / 256 % 256) (by omega)).2.2.2.2
  have b7 := (byte3 (x / 256 / 256 / 256 / 256 / 256 / 256 / 256 % 256) (by omega)).2.2.2.2
  simp only [cnt]
  rw [e7] at b7 ⊢
  generalize ones (x % 256) = c0 at *
  generalize ones (x / 256 % 256) = c1 at *
  generalize ones (x / 256 / 256 % 256) = c2 at *
  generalize ones (x / 256 / 256 / 256 % 256) = c3 at *
  generalize ones (x / 256 / 256 / 256 / 256 % 256) = c4 at *
  generalize ones (x / 256 / 256 / 256 / 256 / 256 % 256) = c5 at *
  generalize ones (x / 256 / 256 / 256 / 256 / 256 / 256 % 256) = c6 at *
  generalize ones (x / 256 / 256 / 256 / 256 / 256 / 256 / 256) = c7 at *
  rw [s0, s1, s2, s3, s4, s5, s6]
  clear s0 s1 s2 s3 s4 s5 s6 e7 hx
  exact spread c0 c1 c2 c3 c4 c5 c6 c7 b0 b1 b2 b3 b4 b5 b6 b7
def psplit (n : Nat) : Nat := 2 ^ (blen (n - 1) - 1)
theorem pow_blen_le {n : Nat} (h : 0 < n) : 2 ^ (blen n - 1) ≤ n := by
  have h1 : ¬ blen n ≤ blen n - 1 := by have := blen_pos h; omega
  rw [blen_le] at h1; omega
theorem psplit_lt {n : Nat} (h : 2 ≤ n) : psplit n < n := by
  have := pow_blen_le (n := n - 1) (by omega)
  unfold psplit; omega
theorem psplit_pos (n : Nat) : 0 < psplit n := Nat.two_pow_pos _
def path (i b e : Nat) : List (Nat × Nat) :=
  if _h : e - b ≤ 1 then []
  else if i < b + psplit (e - b) then path i b (b + psplit (e - b)) ++ [(b + psplit (e - b), e)]
  else path i (b + psplit (e - b)) e ++ [(b, b + psplit (e - b))]
termination_by e - b
decreasing_by
  · have := psplit_lt (n := e - b) (by omega); omega
  · have := psplit_lt (n := e - b) (by omega); have := psplit_pos (e - b); omega
end Go.Proofs.YtielnphmcaecdaaDoor.Mth
namespace Go.Proofs.YtielnphmcaecdaaDoor.PAll
open Go.RowKit Go.Proofs.YtielnphmcaecdaaDoor.Mth Go.Proofs.YtielnphmcaecdaaDoorW.PrintWords Go.Proofs.YtielnphmcaecdaaDoorW.PrintLast Go.Proofs.YtielnphmcaecdaaDoorW.PrintMore
set_option linter.unusedVariables false
theorem grown_from {W W' w5 : World} {row : Option Nat} (hb : Below W.heap.size W W') (hg : W'.grownBy w5 row) : W.grownBy w5 row :=
  ⟨hg.os.trans hb.os, hg.tape.trans hb.tape, hg.output.trans hb.output, Nat.le_trans hb.size hg.size, fun k hk hne => (hg.block k (Nat.lt_of_lt_of_le hk hb.size) hne).trans (hb.block k hk)⟩
theorem hat_from {W W' : World} {v v5 : Value} (hb : Below W.heap.size W W') (h : v5.ownBlock = v.ownBlock ∨ ∃ b, v5.ownBlock = some b ∧ W'.heap.size ≤ b) : v5.ownBlock = v.ownBlock ∨ ∃ b, v5.ownBlock = some b ∧ W.heap.size ≤ b := by
  rcases h with h | ⟨b, h1, h2⟩
  · exact .inl h
  · exact .inr ⟨b, h1, Nat.le_trans hb.size h2⟩
end Go.Proofs.YtielnphmcaecdaaDoor.PAll
namespace Go.Proofs.YtielnphmcaecdaaDoor.PAll
open Go.IntWalk Go.RowKit Go.Proofs.YtielnphmcaecdaaDoorW.PrintWords Go.Proofs.YtielnphmcaecdaaDoorW.PrintLast Go.Proofs.YtielnphmcaecdaaDoorW.PrintMore
set_option linter.unusedVariables false
set_option linter.unusedSimpArgs false
structure RgAt (w : World) (tb p fq : Nat) (a0 a1 a2 a3 a4 a5 b e : Int) (A : Option Addr) (c : Nat) (ss : List SH) (xs : List (List Int)) : Prop where
  cell : w.heap[p]? = some (.cells #[.pointer (some ⟨fq, 0, none⟩), .int .u64 b, .int .u64 e, .slice A ss.length c] 148 (0, 0))
  fac : w.heap[fq]? = some (.cells #[.func (.func 50) #[toyV a0 a1 a2 a3 a4 a5] #[]] 92 (0, 0))
  row : Rw w tb (.slice A ss.length c) ss
  len : ss.length = xs.length
  txt : ∀ (j : Nat) (s : SH) (x : List Int), ss[j]? = some s → xs[j]? = some x → Txt tb w s x
theorem neq_nil (f q : Nat) (W : World) : (binOp BinOp.neq 149 (Value.func (Fn.func f) #[] #[.pointer (some ⟨q, 0, none⟩)]) Value.nilFunc).run Tryd.prog W = .ok (.bool true) W := by kernel_rfl
set_option maxHeartbeats 4000000 in
set_option maxRecDepth 100000 in
theorem newNode.calls (lv ix : Int) (w : World) : Calls Tryd.prog 94 #[.int .u64 lv, .int .u64 ix] w fun e w' => e = .returned (.agg #[.int .u64 lv, .int .u64 ix]) ∧ Below w.heap.size w w' := by
  have hu99 := Tryd.underlying99
  go_enter Tryd.func94, Tryd.ntmps94
  go_wp2_with (fail)
  refine bodyPost_ret (results_cell_row rfl _ _ w.heap.size 99 #[.int .u64 lv, .int .u64 ix] (0, 0) _ rfl (blk_new w _) Tryd.underlying99 rfl (by kernel_rfl)) rfl ?_
  exact ⟨rfl, below_alloc (Below.refl w.heap.size w) _⟩
theorem ty_ne {w : World} {g g' t t' : Nat} {cs cs' : Array Value} (h : w.heap[g]? = some (.cells cs t (0, 0))) (h' : w.heap[g']? = some (.cells cs' t' (0, 0))) (hne : t ≠ t') : g ≠ g' := blk_ne h h' hne
theorem RgAt.vs {w w' : World} {tb p fq q : Nat} {a0 a1 a2 a3 a4 a5 b e : Int} {A : Option Addr} {c : Nat} {ss : List SH} {xs : List (List Int)} {SV : Array Value} (R : RgAt w tb p fq a0 a1 a2 a3 a4 a5 b e A c ss xs) (h : Vs q w w') (hq : w.heap[q]? = some (.cells SV 36 (0, 0))) : RgAt w' tb p fq a0 a1 a2 a3 a4 a5 b e A c ss xs where
  cell := h.blk R.cell (ty_ne R.cell hq (by decide)) (by decide)
  fac := h.blk R.fac (ty_ne R.fac hq (by decide)) (by decide)
  row := h.rw hq R.row
  len := R.len
  txt := fun j s x h1 h2 => (R.txt j s x h1 h2).pres (h.pres hq)
theorem RgAt.below {w w' : World} {tb p fq : Nat} {a0 a1 a2 a3 a4 a5 b e : Int} {A : Option Addr} {c : Nat} {ss : List SH} {xs : List (List Int)} (R : RgAt w tb p fq a0 a1 a2 a3 a4 a5 b e A c ss xs) (h : Below w.heap.size w w') : RgAt w' tb p fq a0 a1 a2 a3 a4 a5 b e A c ss xs where
  cell := blk_below R.cell h
  fac := blk_below R.fac h
  row := Kd.R_below R.row h
  len := R.len
  txt := fun j s x h1 h2 => (R.txt j s x h1 h2).pres (Pres5.below h)
structure Fx (p q : Nat) (row : Option Nat) (w w' : World) : Prop where
  os : w'.os = w.os
  tape : w'.tape = w.tape
  output : w'.output = w.output
  size : w.heap.size ≤ w'.heap.size
  block : ∀ k, k < w.heap.size → k ≠ p → k ≠ q → some k ≠ row → (∀ c, w.heap[k]? ≠ some (.cells c 51 (0, 0))) → w'.heap[k]? = w.heap[k]?
def visA (low : Nat) (ix : Nat → Int) (sds : Nat → List Int) (D : Nat) : List S51 := (List.range D).map fun t => ⟨⟨((low + t + 1 : Nat) : Int), ix (t + 1)⟩, sds (t + 1)⟩
theorem visA_succ (low : Nat) (ix : Nat → Int) (sds : Nat → List Int) (D : Nat) : visA low ix sds (D + 1) = visA low ix sds D ++ [⟨⟨((low + D + 1 : Nat) : Int), ix (D + 1)⟩, sds (D + 1)⟩] := by
  unfold visA
  rw [List.range_succ, List.map_append]; rfl
def Appd (w w' : World) (tb p fq q : Nat) (a0 a1 a2 a3 a4 a5 b en : Int) (A : Option Addr) (c n : Nat) (xs : List (List Int)) (vs : List S51) : Prop :=
  ∃ A' c' ss' SV', RgAt w' tb p fq a0 a1 a2 a3 a4 a5 b en A' c' ss' xs ∧ w'.heap[q]? = some (.cells #[SV'] 36 (0, 0)) ∧ Kd.S k51 51 w' tb (fun _ => True) SV' vs ∧ Fx p q (Value.slice A n c).ownBlock w w' ∧ (∀ B, B ≤ tb → B ≤ q → B ≤ p → Below B w w') ∧
    ((Value.slice A' ss'.length c').ownBlock = (Value.slice A n c).ownBlock ∨ ∃ g, (Value.slice A' ss'.length c').ownBlock = some g ∧ w.heap.size ≤ g)
theorem grown_two {w w1 w2 : World} {r0 : Option Nat} {v1 : Value} (h1 : w.grownBy w1 r0) (hat : v1.ownBlock = r0 ∨ ∃ g, v1.ownBlock = some g ∧ w.heap.size ≤ g) (h2 : w1.grownBy w2 v1.ownBlock) : w.grownBy w2 r0 :=
  ⟨h2.os.trans h1.os, h2.tape.trans h1.tape, h2.output.trans h1.output, Nat.le_trans h1.size h2.size, fun k hk hne => (h2.block k (Nat.lt_of_lt_of_le hk h1.size) (fun e => by
    rcases hat with h | ⟨g, hg, hle⟩
    · exact hne (e.trans h)
    · rw [hg] at e; injection e with e; omega)).trans (h1.block k hk hne)⟩
theorem hat_two {w w1 : World} {r0 : Option Nat} {v1 v2 : Value} (hs : w.heap.size ≤ w1.heap.size) (hat : v1.ownBlock = r0 ∨ ∃ g, v1.ownBlock = some g ∧ w.heap.size ≤ g) (hat2 : v2.ownBlock = v1.ownBlock ∨ ∃ g, v2.ownBlock = some g ∧ w1.heap.size ≤ g) : v2.ownBlock = r0 ∨ ∃ g, v2.ownBlock = some g ∧ w.heap.size ≤ g := by
  rcases hat2 with h | ⟨g, hg, hle⟩
  · rw [h]; exact hat
  · exact .inr ⟨g, hg, by omega⟩
theorem txt_snoc {w : World} {tb : Nat} {ss : List SH} {xs : List (List Int)} {s : SH} {x : List Int} (hl : ss.length = xs.length) (h : ∀ (j : Nat) (s : SH) (x : List Int), ss[j]? = some s → xs[j]? = some x → Txt tb w s x) (hx : Txt tb w s x) (m : Nat) (hm : m ≤ ss.length) :
    ∀ (j : Nat) (s' : SH) (x' : List Int), (ss.take m ++ [s])[j]? = some s' → (xs.take m ++ [x])[j]? = some x' → Txt tb w s' x' := by
  intro j s' x' h1 h2
  have l1 : (ss.take m).length = m := by rw [List.length_take]; omega
  have l2 : (xs.take m).length = m := by rw [List.length_take]; omega
  by_cases e : j < m
  · rw [List.getElem?_append_left (by omega), List.getElem?_take, if_pos e] at h1 h2
    exact h j s' x' h1 h2
  · have e2 : j = m := by
      have := (List.getElem?_eq_some_iff.1 h1).1
      rw [List.length_append, List.length_singleton] at this; omega
    subst e2
    rw [List.getElem?_append_right (by omega), l1, Nat.sub_self] at h1
    rw [List.getElem?_append_right (by omega), l2, Nat.sub_self] at h2
    obtain rfl := Option.some.inj h1
    obtain rfl := Option.some.inj h2
    exact hx
theorem own_at (A : Option Addr) (n m c d : Nat) : (Value.slice A n c).ownBlock = (Value.slice A m d).ownBlock := by cases A <;> rfl
end Go.Proofs.YtielnphmcaecdaaDoor.PAll
namespace Go.Proofs.YtielnphmcaecdaaDoor.PAll
open Go.RowKit Go.Proofs.YtielnphmcaecdaaDoor.Mth Go.Proofs.YtielnphmcaecdaaDoorW.PrintWords Go.Proofs.YtielnphmcaecdaaDoorW.PrintLast Go.Proofs.YtielnphmcaecdaaDoorW.PrintMore
set_option linter.unusedVariables false
def foldR_ (F : List Int → List Int → Option (List Int)) : List (List Int) → Option (List Int)
  | [] => none
  | [x] => some x
  | x :: y :: l => (foldR_ F (y :: l)).bind fun t => F x t
end Go.Proofs.YtielnphmcaecdaaDoor.PAll
namespace Go.Proofs.YtielnphmcaecdaaDoor.PAll
open Go.IntWalk Go.RowKit Go.Proofs.YtielnphmcaecdaaDoorW.PrintWords Go.Proofs.YtielnphmcaecdaaDoorW.PrintLast Go.Proofs.YtielnphmcaecdaaDoorW.PrintMore
set_option linter.unusedVariables false
def upB_ (H : List Int → List Int → Option (List Int)) : List (List Int) → List Int → Option (List Int)
  | [], s => some s
  | x :: xs, s => (H x s).bind fun t => upB_ H xs t
def rehL (b e : Nat) (xs : List (List Int)) (f : List Int) : List (List Int) := if b < e then xs.take b ++ f :: xs.drop e else xs
theorem heads_C {w : World} {base B : Nat} {A : Option Addr} {n c : Nat} {ok : Nat → Prop} {hs : List SH} {out : List (List Int)} (h : kSH.R 27 w base ok (.slice A n c) hs) (hl : out.length ≤ hs.length)
    (ht : ∀ (j : Nat) (s : SH) (b : List Int), hs[j]? = some s → out[j]? = some b → Txt B w s b) : Kd.C (Kd.slice 5 (Kd.int .u8)) w A out.length out := by
  obtain ⟨h1, h2, h3⟩ := Kd.R_reads' h
  refine ⟨rfl, Nat.le_trans hl h3.2.1, fun hp => ?_⟩
  obtain ⟨ad, e, hc⟩ := h3.2.2 (by omega)
  refine ⟨ad, e, fun j b hj => ?_⟩
  have hjl : j < hs.length := by have := (List.getElem?_eq_some_iff.1 hj).1; omega
  obtain ⟨⟨As, ns, c1⟩, hsj⟩ : ∃ s, hs[j]? = some s := ⟨_, List.getElem?_eq_getElem hjl⟩
  obtain ⟨cs, k1, k2, k3⟩ := hc j _ hsj
  obtain ⟨t1, t2, t3⟩ := (ht j _ b hsj hj).read
  refine ⟨cs, k1, ⟨As, c1, ?_, t2, t3⟩, k3⟩
  rw [← t1]; exact k2
end Go.Proofs.YtielnphmcaecdaaDoor.PAll
namespace Go.Proofs.YtielnphmcaecdaaDoor.PAll
open Go.IntWalk Go.RowKit Go.Proofs.YtielnphmcaecdaaDoorW.PrintWords Go.Proofs.YtielnphmcaecdaaDoorW.PrintLast Go.Proofs.YtielnphmcaecdaaDoorW.PrintMore
set_option linter.unusedVariables false
set_option linter.unusedSimpArgs false
theorem Appd.after {w w1 w' : World} {tb p fq q : Nat} {a0 a1 a2 a3 a4 a5 b en : Int} {A : Option Addr} {c n : Nat} {xs : List (List Int)} {vs : List S51} (hv : Vs q w w1) (hb : ∀ B, B ≤ tb → B ≤ q → Below B w w1) (h : Appd w1 w' tb p fq q a0 a1 a2 a3 a4 a5 b en A c n xs vs) : Appd w w' tb p fq q a0 a1 a2 a3 a4 a5 b en A c n xs vs := by
  obtain ⟨A', c', ss', SV', R, hq, hS, F, hB, hat⟩ := h
  refine ⟨A', c', ss', SV', R, hq, hS, ⟨F.os.trans hv.os, F.tape.trans hv.tape, F.output.trans hv.output, Nat.le_trans hv.size F.size, fun k hk h1 h2 h3 h4 => ?_⟩, fun B h1 h2 h3 => (hb B h1 h2).trans (hB B h1 h2 h3), ?_⟩
  · have e := hv.block k hk h2 h4
    exact (F.block k (Nat.lt_of_lt_of_le hk hv.size) h1 h2 h3 (fun c => by rw [e]; exact h4 c)).trans e
  · rcases hat with h | ⟨g, h, hle⟩
    · exact .inl h
    · exact .inr ⟨g, h, Nat.le_trans hv.size hle⟩
set_option maxHeartbeats 8000000 in
set_option maxRecDepth 100000 in
theorem newRange.calls (k fq : Nat) (b e : Int) (A : Option Addr) (n c : Nat) (w : World) (hG : Glob w) (hbe : b ≤ e) (hsz : compact_RangeSize.f k b e = some (n : Int)) :
    Calls Tryd.prog 51 #[.pointer (some ⟨fq, 0, none⟩), .int .u64 b, .int .u64 e, .slice A n c] w fun ex w' => ∃ m, ex = .returned (.tuple #[.pointer (some ⟨w.heap.size, 0, none⟩), .nilIface]) ∧ w' = (w.drewN m).alloc (Obj.cells #[.pointer (some ⟨fq, 0, none⟩), .int .u64 b, .int .u64 e, .slice A n c] 148) := by
  have b0 : decide (e < b) = false := decide_eq_false (by omega)
  have b1 : ((n : Int) != (n : Int)) = false := by simp
  go_enter Tryd.func51, Tryd.ntmps51
  go_wp2_with (fail)
  refine (compact_RangeSize.calls k b e n _ hsz).mono ?_
  rintro ex w1 ⟨rfl, hd⟩
  obtain ⟨⟨nd, rfl⟩⟩ := hd
  dsimp only
  go_wp2
  go_ret2
  exact ⟨nd, rfl, rfl⟩
theorem rangeBegin.calls (p fq : Nat) (b e : Int) (V : Value) (w : World) (h : w.heap[p]? = some (.cells #[.pointer (some ⟨fq, 0, none⟩), .int .u64 b, .int .u64 e, V] 148 (0, 0))) : Calls Tryd.prog 91 #[.pointer (some ⟨p, 0, none⟩)] w fun ex w' => ex = .returned (.int .u64 b) ∧ w' = w := by
  have y1 : w.cell? ⟨p, 1, none⟩ = some (.int .u64 b) := blk_cell h 1
  go_enter Tryd.func91, Tryd.ntmps91
  go_wp2
  go_ret
  exact ⟨rfl, rfl⟩
theorem rangeEnd.calls (p fq : Nat) (b e : Int) (V : Value) (w : World) (h : w.heap[p]? = some (.cells #[.pointer (some ⟨fq, 0, none⟩), .int .u64 b, .int .u64 e, V] 148 (0, 0))) : Calls Tryd.prog 92 #[.pointer (some ⟨p, 0, none⟩)] w fun ex w' => ex = .returned (.int .u64 e) ∧ w' = w := by
  have y1 : w.cell? ⟨p, 2, none⟩ = some (.int .u64 e) := blk_cell h 2
  go_enter Tryd.func92, Tryd.ntmps92
  go_wp2
  go_ret
  exact ⟨rfl, rfl⟩
theorem rangeHashes.calls (p fq : Nat) (b e : Int) (A : Option Addr) (n c : Nat) (w : World) (h : w.heap[p]? = some (.cells #[.pointer (some ⟨fq, 0, none⟩), .int .u64 b, .int .u64 e, .slice A n c] 148 (0, 0))) : Calls Tryd.prog 93 #[.pointer (some ⟨p, 0, none⟩)] w fun ex w' => ex = .returned (.slice A n c) ∧ w' = w := by
  have y1 : w.cell? ⟨p, 3, none⟩ = some (.slice A n c) := blk_cell h 3
  go_enter Tryd.func93, Tryd.ntmps93
  go_wp2
  go_ret
  exact ⟨rfl, rfl⟩
set_option maxHeartbeats 8000000 in
set_option maxRecDepth 100000 in
theorem fromRange.calls (k tb p fq : Nat) (a0 a1 a2 a3 a4 a5 b e : Int) (A : Option Addr) (c : Nat) (ss : List SH) (xs r : List (List Int)) (w : World) (R : RgAt w tb p fq a0 a1 a2 a3 a4 a5 b e A c ss xs) (hx : impl_texts.f k xs = some r) :
    Calls Tryd.prog 55 #[.pointer (some ⟨p, 0, none⟩)] w fun ex w' => ∃ v, ex = .returned (.agg #[.int .u64 b, .int .u64 e, v]) ∧ Kd.S (Kd.slice 5 (Kd.int .u8)) 27 w' w.heap.size (fun _ => True) v r ∧ Below w.heap.size w w' := by
  have HR := Aside0.mk R
  have HX := Aside0.mk hx
  clear R hx
  go_enter Tryd.func55, Tryd.ntmps55
  go_wp2_with (fail)
  have BK := Aside0.mk (blk_new w (Obj.cells #[Value.int IntKind.u64 0, Value.int IntKind.u64 0, Value.slice none 0 0] 34))
  have HB := Aside0.mk (below_alloc (Below.refl w.heap.size w) (Obj.cells #[Value.int IntKind.u64 0, Value.int IntKind.u64 0, Value.slice none 0 0] 34))
  generalize w.alloc (Obj.cells #[Value.int IntKind.u64 0, Value.int IntKind.u64 0, Value.slice none 0 0] 34) = W at BK HB ⊢
  replace HR := Aside0.mk (HR.out.below HB.out)
  refine (rangeBegin.calls p fq b e _ W HR.out.cell).mono ?_
  rintro ex w' ⟨rfl, rfl⟩
  dsimp only
  go_wp2_with (fail)
  refine (rangeEnd.calls p fq b e _ w' HR.out.cell).mono ?_
  rintro ex w' ⟨rfl, rfl⟩
  dsimp only
  go_wp2_with (fail)
  refine (rangeHashes.calls p fq b e _ _ _ w' HR.out.cell).mono ?_
  rintro ex w' ⟨rfl, rfl⟩
  dsimp only
  have hln := HR.out.len
  have hRC := heads_C HR.out.row (out := xs) (by omega) (fun j s b h1 h2 => HR.out.txt j s b h1 h2)
  have hle := (Kd.R_reads' HR.out.row).2.1
  rw [hln] at hle
  have HRC := Aside0.mk hRC
  have HLE := Aside0.mk hle
  obtain ⟨n, hn⟩ : ∃ n, ss.length = n := ⟨_, rfl⟩
  rw [hn]
  obtain rfl : n = xs.length := by omega
  clear hRC hle hln
  go_wp2_with (fail)
  refine (impl_texts.calls k A c xs r _ HRC.out HLE.out HX.out).mono ?_
  rintro ex w3 ⟨v3, rfl, hS3, hb3⟩
  have HS3 := Aside0.mk (Kd.S_lower hS3 HB.out.size)
  replace BK := Aside0.mk (blk_below BK.out hb3)
  replace HB := Aside0.mk (below_step HB.out hb3)
  clear hS3 hb3
  dsimp only
  obtain ⟨A3, c3, rfl⟩ := Kd.S_slice HS3.out
  have s0 : w3.cell? ⟨w.heap.size, 0, none⟩ = some (.int .u64 0) := blk_cell BK.out 0
  have s1 : w3.cell? ⟨w.heap.size, 1, none⟩ = some (.int .u64 0) := blk_cell BK.out 1
  have s2 : w3.cell? ⟨w.heap.size, 2, none⟩ = some (.slice none 0 0) := blk_cell BK.out 2
  have z0 := blk_frozen BK.out 0
  have z1 := blk_frozen BK.out 1
  have z2 := blk_frozen BK.out 2
  go_wp2
  have k1 := blk_set BK.out 0 (.int .u64 b)
  have k2 := blk_set k1 1 (.int .u64 e)
  have k3 := blk_set k2 2 (.slice A3 r.length c3)
  refine bodyPost_ret (results_cell_row rfl _ _ w.heap.size 34 #[.int .u64 b, .int .u64 e, .slice A3 r.length c3] (0, 0) _ rfl k3 Tryd.underlying34 rfl (by kernel_rfl)) rfl ?_
  exact ⟨_, rfl, Kd.S_set (Kd.S_set (Kd.S_set HS3.out BK.out (by decide) _ _) k1 (by decide) _ _) k2 (by decide) _ _, ((HB.out.setCell (p := ⟨w.heap.size, 0, none⟩) (Nat.le_refl _) _).setCell (p := ⟨w.heap.size, 1, none⟩) (Nat.le_refl _) _).setCell (p := ⟨w.heap.size, 2, none⟩) (Nat.le_refl _) _⟩
end Go.Proofs.YtielnphmcaecdaaDoor.PAll
namespace Go.Proofs.YtielnphmcaecdaaDoor.PAll
open Go.RowKit Go.Proofs.YtielnphmcaecdaaDoorW.PrintWords Go.Proofs.YtielnphmcaecdaaDoorW.PrintLast Go.Proofs.YtielnphmcaecdaaDoorW.PrintMore
set_option linter.unusedVariables false
set_option linter.unusedSimpArgs false
set_option maxHeartbeats 8000000 in
set_option maxRecDepth 100000 in
theorem seen53.calls (lv ix : Int) (A : Option Addr) (c : Nat) (b : List Int) (tb q : Nat) (SV : Value) (vs : List S51) (w : World) (hb : tb ≤ w.heap.size) (hq : w.heap[q]? = some (.cells #[SV] 36 (0, 0))) (hS : Kd.S k51 51 w tb (fun _ => True) SV vs)
    (hC : Kd.C (Kd.int .u8) w A b.length b) (hc : b.length ≤ c) (hl : vs.length < 1099511627776) (hbl : b.length ≤ 140737488355328) :
    Calls Tryd.prog 53 #[.agg #[.int .u64 lv, .int .u64 ix], .slice A b.length c, .pointer (some ⟨q, 0, none⟩)] w fun e w' => e = .returned (.tuple #[]) ∧ ∃ SV', w'.heap[q]? = some (.cells #[SV'] 36 (0, 0)) ∧ Kd.S k51 51 w' tb (fun _ => True) SV' (vs ++ [⟨⟨lv, ix⟩, b⟩]) ∧ (∀ B, B ≤ tb → B ≤ q → Below B w w') ∧ Vs q w w' := by
  have HB := Aside0.mk (below_alloc (Below.refl w.heap.size w) (Obj.cells #[Value.int IntKind.u64 lv, Value.int IntKind.u64 ix] 99))
  have hbk := blk_new w (Obj.cells #[Value.int IntKind.u64 lv, Value.int IntKind.u64 ix] 99)
  have HQ := Aside0.mk hq
  have HS := Aside0.mk hS
  have HC := Aside0.mk hC
  have HCC := Aside0.mk hc
  have HL := Aside0.mk hl
  have HBL := Aside0.mk hbl
  have HTB := Aside0.mk hb
  have hqlt := blk_lt hq
  clear hq hS hC hc hl hbl hb
  go_enter Tryd.func53, Tryd.ntmps53
  go_wp2_with (fail)
  generalize w.alloc (Obj.cells #[Value.int IntKind.u64 lv, Value.int IntKind.u64 ix] 99) = W0 at HB hbk ⊢
  have HQ0 := Aside0.mk (blk_below HQ.out HB.out)
  have HS0 := Aside0.mk (Kd.S_mono (ok' := fun k => k < W0.heap.size) (Kd.S_bound (Kd.S_below HS.out HB.out)) (fun k hk => hk.2.2.1))
  have HC0 := Aside0.mk (Kd.C_below HC.out HB.out)
  have HBK := Aside0.mk hbk
  have y0 : W0.cell? ⟨q, 0, none⟩ = some SV := blk_cell HQ0.out 0
  have y1 : W0.cell? ⟨w.heap.size, 0, none⟩ = some (.int .u64 lv) := blk_cell hbk 0
  have y2 : W0.cell? ⟨w.heap.size, 1, none⟩ = some (.int .u64 ix) := blk_cell hbk 1
  have HQL := Aside0.mk (show q < W0.heap.size from Nat.lt_of_lt_of_le hqlt HB.out.size)
  have HWL := Aside0.mk (show w.heap.size < W0.heap.size from blk_lt hbk)
  have HBn := Aside0.mk (Below.refl W0.heap.size W0)
  have hqw : q ≠ w.heap.size := Nat.ne_of_lt hqlt
  have hqw' : w.heap.size ≠ q := Nat.ne_of_gt hqlt
  clear hbk hqlt
  have z0 : ∀ o, (W0.alloc o).cell? ⟨q, 0, none⟩ = some SV := fun o => (World.cell?_alloc_lt _ _ _ HQL.out).trans y0
  have z1 : ∀ o, (W0.alloc o).cell? ⟨w.heap.size, 0, none⟩ = some (.int .u64 lv) := fun o => (World.cell?_alloc_lt _ _ _ HWL.out).trans y1
  have z2 : ∀ o, (W0.alloc o).cell? ⟨w.heap.size, 1, none⟩ = some (.int .u64 ix) := fun o => (World.cell?_alloc_lt _ _ _ HWL.out).trans y2
  go_region_law (first
    | (go_simp
       go_at_call 54
       refine (impl_fromNode.calls lv ix lv ix _ rfl).mono ?_
       rintro e wq ⟨rfl, hB⟩
       have hB1 : Below W0.heap.size W0 wq := below_step (by repeat (first | exact HBn.out | exact Below.refl _ _ | (refine below_alloc ?_ _) | apply Below.drew | apply pw_below_drewN | apply below_drew)) hB
       try have H8 := Aside0.mk (Kd.R_below (Kd.R_drew (lit_R _ (below_size (by repeat (first | exact HBn.out | exact Below.refl _ _ | (refine below_alloc ?_ _) | apply Below.drew | apply pw_below_drewN | apply below_drew))))) hB)
       try have H8 := Aside0.mk (Kd.R_below (lit_R _ (below_size (by repeat (first | exact HBn.out | exact Below.refl _ _ | (refine below_alloc ?_ _) | apply Below.drew | apply pw_below_drewN | apply below_drew)))) hB)
       try have H10 := Aside0.mk (Kd.R_below H10.out (below_step (by repeat (first | exact Below.refl _ _ | apply Below.drew | apply below_drew)) hB))
       have HBn := Aside0.mk hB1
       have v0_ := (HBn.out.cell (p := ⟨q, 0, none⟩) HQL.out).trans y0
       have z0_ : ∀ o, (wq.alloc o).cell? ⟨q, 0, none⟩ = some SV := fun o => (World.cell?_alloc_lt _ _ _ (Nat.lt_of_lt_of_le HQL.out HBn.out.size)).trans v0_
       clear hB hB1)
    | (refine Kd.R_append_rows_step (Kd.int .u8) (w0 := W0) W0.heap.size ?hw (.tmp 8) (.tmp 9) 27 5 (.int .u8 0) 1 rfl Tryd.underlying27 info5 rfl (by decide) (by omega) _ [] b A b.length c (fun k => W0.heap.size ≤ k) (fun _ => False) rfl rfl ?aO ?aR (fun _ _ h => h) (fun _ h => h.elim) ?aF ?hB ?hbase ?aL ?_
       (case hw => simp [Region.wanted])
       (case aO => repeat (first | exact H8.out | exact lit_R _ (below_size (by repeat (first | exact HBn.out | exact Below.refl _ _ | (refine below_alloc ?_ _) | apply Below.drew | apply pw_below_drewN | apply below_drew))) | (refine Kd.R_drewN ?_ _) | (refine Kd.R_drew ?_)))
       (case aR => exact Kd.C_below HC0.out (by repeat (first | exact HBn.out | exact Below.refl _ _ | (refine below_alloc ?_ _) | apply Below.drew | apply pw_below_drewN | apply below_drew)))
       (case aF => exact fun k hk => Nat.le_trans (below_size (by repeat (first | exact HBn.out | exact Below.refl _ _ | (refine below_alloc ?_ _) | apply Below.drew | apply pw_below_drewN | apply below_drew))) hk)
       (case hB => exact (by repeat (first | exact HBn.out | exact Below.refl _ _ | (refine below_alloc ?_ _) | apply Below.drew | apply pw_below_drewN | apply below_drew)))
       (case hbase => exact below_size (by repeat (first | exact HBn.out | exact Below.refl _ _ | (refine below_alloc ?_ _) | apply Below.drew | apply pw_below_drewN | apply below_drew)))
       (case aL => have := HBL.out; simp; omega)
       intro v10 wq ho hB hg hat
       have H10 := Aside0.mk (show Kd.R (Kd.int .u8) 5 wq W0.heap.size (fun k => W0.heap.size ≤ k) v10 b from ho)
       obtain ⟨A10, c10, rfl⟩ := Kd.R_slice H10.out
       have HBn := Aside0.mk hB
       have v0_ := (HBn.out.cell (p := ⟨q, 0, none⟩) HQL.out).trans y0
       have z0_ : ∀ o, (wq.alloc o).cell? ⟨q, 0, none⟩ = some SV := fun o => (World.cell?_alloc_lt _ _ _ (Nat.lt_of_lt_of_le HQL.out HBn.out.size)).trans v0_
       clear ho hB hg hat)
    | (refine Kd.S_append_step k51 (w0 := W0) tb ?hw (.tmp 5) (.tmp 12) 36 51 (.agg #[(.int .u64 0), (.int .u64 0), (.slice none 0 0)]) 40 rfl Tryd.underlying36 info51 rfl (by decide) (by omega) SV vs ⟨⟨lv, ix⟩, b⟩ [.int .u64 lv, .int .u64 ix, .slice A10 b.length c10] (fun _ => True) (fun k => W0.heap.size ≤ k) rfl rfl ?hp ?hok (fun _ _ => trivial) ?HO ?hB ?hbase ?aL ?_
       (case hw => simp [Region.wanted])
       (case hp => exact k51_mkM _ tb _ ⟨⟨lv, ix⟩, b⟩ (Kd.R_lower (by repeat (first | exact H10.out | (refine Kd.R_alloc ?_ _) | (refine Kd.R_drewN ?_ _) | (refine Kd.R_drew ?_))) (Nat.le_trans HTB.out HB.out.size)))
       (case hok => exact fun k hk => ⟨trivial, fun e => absurd (Kd.S_lt HS0.out k e.symm) (Nat.not_lt_of_le hk)⟩)
       (case HO => exact Kd.S_mono (Kd.S_step HS0.out (fun k hk _ => (show Below W0.heap.size W0 _ from (by repeat (first | exact HBn.out | exact Below.refl _ _ | (refine below_alloc ?_ _) | apply Below.drew | apply pw_below_drewN | apply below_drew))).block k hk)) (fun k hk => ⟨trivial, Nat.not_le_of_lt hk⟩))
       (case hB => exact (show Below W0.heap.size W0 _ from (by repeat (first | exact HBn.out | exact Below.refl _ _ | (refine below_alloc ?_ _) | apply Below.drew | apply pw_below_drewN | apply below_drew))).mono (Nat.le_trans HTB.out HB.out.size))
       (case hbase => exact Nat.le_trans (Nat.le_trans HTB.out HB.out.size) (below_size (show Below W0.heap.size W0 _ from (by repeat (first | exact HBn.out | exact Below.refl _ _ | (refine below_alloc ?_ _) | apply Below.drew | apply pw_below_drewN | apply below_drew)))))
       (case aL => have := HL.out; omega)
       intro v13 wq hS13 hB13 hg13 hat
       have HQ13 := Aside0.mk (show wq.heap[q]? = some (.cells #[SV] 36 (0, 0)) from by
         obtain ⟨hS, hH⟩ := (⟨hS13, hg13⟩ : _ ∧ _)
         exact (hH.block q (Nat.lt_of_lt_of_le HQL.out (below_size (show Below W0.heap.size W0 _ from (by repeat (first | exact HBn.out | exact Below.refl _ _ | (refine below_alloc ?_ _) | apply Below.drew | apply pw_below_drewN | apply below_drew))))) (fun e => blk_ne HQ0.out (Kd.S_typed HS0.out q e.symm).choose_spec (by decide) rfl)).trans (((show Below W0.heap.size W0 _ from (by repeat (first | exact HBn.out | exact Below.refl _ _ | (refine below_alloc ?_ _) | apply Below.drew | apply pw_below_drewN | apply below_drew))).block q HQL.out).trans HQ0.out))
       have HK13 := Aside0.mk (show ∀ k, k < W0.heap.size → some k ≠ SV.ownBlock → wq.heap[k]? = W0.heap[k]? from fun k hk hne => (hg13.block k (Nat.lt_of_lt_of_le hk (below_size (show Below W0.heap.size W0 _ from (by repeat (first | exact HBn.out | exact Below.refl _ _ | (refine below_alloc ?_ _) | apply Below.drew | apply pw_below_drewN | apply below_drew))))) hne).trans ((show Below W0.heap.size W0 _ from (by repeat (first | exact HBn.out | exact Below.refl _ _ | (refine below_alloc ?_ _) | apply Below.drew | apply pw_below_drewN | apply below_drew))).block k hk))
       have HS13 := Aside0.mk hS13
       have HB13 := Aside0.mk hB13
       have v0_ : wq.cell? ⟨q, 0, none⟩ = some SV := blk_cell HQ13.out 0
       obtain ⟨A13, c13, rfl⟩ := Kd.S_slice HS13.out
       have f0_ : wq.frozen? ⟨q, 0, none⟩ = false := blk_frozen HQ13.out 0
       clear hS13 hB13 hg13 hat)
    | fail)
  all_goals
    go_wp2
    go_end0
    exact ⟨rfl, seen_end HTB.out HB.out HS0.out HQ13.out HK13.out HB13.out (by have := HS13.out; rw [List.length_append] at this; exact this)⟩
end Go.Proofs.YtielnphmcaecdaaDoor.PAll
