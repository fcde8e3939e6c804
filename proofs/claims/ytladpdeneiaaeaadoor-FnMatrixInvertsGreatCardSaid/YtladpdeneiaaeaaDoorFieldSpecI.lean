import Derived.Test.YtladpdeneiaaeaaDoorFieldFnsR
import Derived.Test.YtladpdeneiaaeaaDoorInvFld
import Derived.Test.YtladpdeneiaaeaaDoorPInvx1
import Derived.Test.YtladpdeneiaaeaaDoorNum
/-! The law's own arithmetic of bytes: products of polynomials, what is left of them, inverses. -/
namespace Go.Proofs.YtladpdeneiaaeaaDoor.FldI
open Go.RowKit Go.Proofs.YtladpdeneiaaeaaDoor.Num Go.Proofs.YtladpdeneiaaeaaDoor.FldR Go.Proofs.YtladpdeneiaaeaaDoor.PInv Go.Proofs.YtladpdeneiaaeaaDoorW.PrintWords Go.Proofs.YtladpdeneiaaeaaDoorW.PrintLast Go.Proofs.YtladpdeneiaaeaaDoorW.PrintMore
open Go.Proofs.YtladpdeneiaaeaaDoor.PRow (xt)
def part (a b i : Nat) : Nat := if b.testBit i = true then a <<< i else 0
def prodN (a b : Nat) : Nat → Nat → Nat → Nat
  | 0, _, acc => acc
  | d + 1, i, acc => prodN a b d (i + 1) (acc ^^^ part a b i)
def remN : Nat → Nat → Nat
  | 0, a => a
  | d + 1, a => remN d (a ^^^ (if a.testBit (d + 8) = true then 285 <<< d else 0))
theorem bit_of (b i : Nat) : (b / 2 ^ i) &&& 1 = 1 ↔ b.testBit i = true := by
  rw [Nat.and_one_is_mod, Nat.testBit_eq_decide_div_mod_eq, decide_eq_true_iff]
theorem shr32 (a b : Nat) (hb : b ≤ 32) : shr .u32 (a : Int) (b : Int) = ((a / 2 ^ b : Nat) : Int) := by
  show (a : Int) / 2 ^ min ((b : Int).toNat) 32 = _
  rw [Int.toNat_natCast, Nat.min_eq_left hb, Int.natCast_ediv, Int.natCast_pow]
  rfl
theorem part_lt {a b i : Nat} (ha : a < 256) (hi : i < 32) : part a b i < 2 ^ 40 := by
  unfold part
  split
  · rw [Nat.shiftLeft_eq]
    have h1 : a * 2 ^ i < 2 ^ 8 * 2 ^ i := Nat.mul_lt_mul_of_pos_right ha (Nat.two_pow_pos i)
    rw [← Nat.pow_add] at h1
    exact Nat.lt_of_lt_of_le h1 (Nat.pow_le_pow_right (by decide) (by omega))
  · decide
theorem product_loop {a b : Nat} (ha : a < 256) (hb : b < 256) (d : Nat) : ∀ (acc i k : Nat), acc < 2 ^ 40 → i + d = 32 → d < k → spec_product.l0 k (a : Int) (b : Int) (acc : Int) (i : Int) = some ((prodN a b d i acc : Nat) : Int) := by
  induction d with
  | zero =>
    intro acc i k hacc hi hk
    obtain ⟨k, rfl⟩ : ∃ m, k = m + 1 := ⟨k - 1, by omega⟩
    unfold spec_product.l0
    rw [if_neg (by omega)]; rfl
  | succ d ih =>
    intro acc i k hacc hi hk
    obtain ⟨k, rfl⟩ : ∃ m, k = m + 1 := ⟨k - 1, by omega⟩
    unfold spec_product.l0
    have hq : b / 2 ^ i < 4294967296 := Nat.lt_of_le_of_lt (Nat.div_le_self _ _) (by omega)
    have hp := part_lt (b := b) ha (show i < 32 by omega)
    rw [if_pos (by omega), if_pos (by omega), shr32 b i (by omega), show (1 : Int) = ((1 : Nat) : Int) from rfl, Go.u32_and_nat _ _ hq (by omega)]
    have hn := ih (acc ^^^ part a b i) (i + 1) k (Nat.xor_lt_two_pow hacc hp) (by omega) (by omega)
    show _ = some ((prodN a b d (i + 1) (acc ^^^ part a b i) : Nat) : Int)
    rw [← hn]
    by_cases ht : b.testBit i = true
    · rw [if_pos (by rw [(bit_of b i).mpr ht])]
      have e : part a b i = a * 2 ^ i := by unfold part; rw [if_pos ht, Nat.shiftLeft_eq]
      rw [e] at hp ⊢
      rw [u64in (by omega), shl64 a i (by omega), Nat.mod_eq_of_lt (by omega), xor64 _ _ (by omega) (by omega), ← Int.natCast_add, w64 (by omega)]
    · rw [if_neg (fun h => ht ((bit_of b i).mp (Int.ofNat_inj.mp h)))]
      have e : part a b i = 0 := by unfold part; rw [if_neg ht]
      rw [e, Nat.xor_zero, ← Int.natCast_add, w64 (by omega)]
theorem prodN_high {a b : Nat} (hb : b < 256) (d : Nat) : ∀ i acc, 8 ≤ i → prodN a b d i acc = acc := by
  induction d with
  | zero => intro i acc _; rfl
  | succ d ih =>
    intro i acc hi
    show prodN a b d (i + 1) (acc ^^^ part a b i) = acc
    have e : b.testBit i = false := Nat.testBit_lt_two_pow (Nat.lt_of_lt_of_le hb (show 2 ^ 8 ≤ 2 ^ i from Nat.pow_le_pow_right (by decide) hi))
    rw [ih (i + 1) _ (by omega), part, if_neg (by rw [e]; decide), Nat.xor_zero]
theorem prod_eq (a b : Nat) (hb : b < 256) : prodN a b 32 0 0 = 0 ^^^ part a b 0 ^^^ part a b 1 ^^^ part a b 2 ^^^ part a b 3 ^^^ part a b 4 ^^^ part a b 5 ^^^ part a b 6 ^^^ part a b 7 := by
  show prodN a b 24 8 _ = _
  rw [prodN_high hb 24 8 _ (by omega)]
theorem remN_lt (d : Nat) (hd : d ≤ 56) : ∀ a, a < 2 ^ 64 → remN d a < 2 ^ 64 := by
  induction d with
  | zero => intro a h; exact h
  | succ d ih =>
    intro a h
    refine ih (by omega) _ (Nat.xor_lt_two_pow h ?_)
    split
    · rw [Nat.shiftLeft_eq]
      have : 285 * 2 ^ d ≤ 285 * 2 ^ 55 := Nat.mul_le_mul_left _ (Nat.pow_le_pow_right (by decide) (by omega))
      omega
    · decide
theorem rem_loop (d : Nat) (hd : d ≤ 56) : ∀ (a k : Nat), a < 2 ^ 64 → d < k → spec_remainder.l0 k (a : Int) 285 8 ((d + 7 : Nat) : Int) = some ((remN d a : Nat) : Int) := by
  induction d with
  | zero =>
    intro a k ha hk
    obtain ⟨k, rfl⟩ : ∃ m, k = m + 1 := ⟨k - 1, by omega⟩
    unfold spec_remainder.l0
    rw [if_neg (by omega)]; rfl
  | succ d ih =>
    intro a k ha hk
    obtain ⟨k, rfl⟩ : ∃ m, k = m + 1 := ⟨k - 1, by omega⟩
    have hs : 285 * 2 ^ d < 2 ^ 64 := by
      have : 285 * 2 ^ d ≤ 285 * 2 ^ 55 := Nat.mul_le_mul_left _ (Nat.pow_le_pow_right (by decide) (by omega))
      omega
    have hm : (if a.testBit (d + 8) = true then 285 <<< d else 0) < 2 ^ 64 := by
      split
      · rw [Nat.shiftLeft_eq]; exact hs
      · decide
    have hn := ih (by omega) (a ^^^ (if a.testBit (d + 8) = true then 285 <<< d else 0)) k (Nat.xor_lt_two_pow ha hm) (by omega)
    show _ = some ((remN d (a ^^^ (if a.testBit (d + 8) = true then 285 <<< d else 0)) : Nat) : Int)
    rw [← hn]
    conv => lhs; unfold spec_remainder.l0
    have hq : a / 2 ^ (d + 1 + 7) < 18446744073709551616 := Nat.lt_of_le_of_lt (Nat.div_le_self _ _) (by omega)
    rw [if_pos (by omega), if_pos (by omega), shr64' a _ (by omega), show Go.bits .and .u64 ((a / 2 ^ (d + 1 + 7) : Nat) : Int) 1 = (((a / 2 ^ (d + 1 + 7)) &&& 1 : Nat) : Int) from and64 _ 1 hq (by omega)]
    rw [show ((d + 1 + 7 : Nat) : Int) - 8 = ((d : Nat) : Int) by omega, show ((d + 1 + 7 : Nat) : Int) - 1 = ((d + 7 : Nat) : Int) by omega, w64 (by omega), w64 (by omega)]
    by_cases ht : a.testBit (d + 8) = true
    · rw [if_pos (by rw [(bit_of a (d + 8)).mpr ht]; rfl), if_pos (by omega), if_pos ht, show shl .u64 285 ((d : Nat) : Int) = _ from shl64 285 d (by omega), Nat.mod_eq_of_lt (by omega), xor64 _ _ (by omega) (by omega), Nat.shiftLeft_eq]
    · rw [if_neg (show ¬ (((a / 2 ^ (d + 1 + 7)) &&& 1 : Nat) : Int) = 1 from fun h => ht ((bit_of a (d + 8)).mp (Int.ofNat_inj.mp h))), if_neg ht, Nat.xor_zero]
theorem remN_xor (d : Nat) : ∀ a b, remN d (a ^^^ b) = remN d a ^^^ remN d b := by
  induction d with
  | zero => intro a b; rfl
  | succ d ih =>
    intro a b
    show remN d _ = remN d _ ^^^ remN d _
    rw [← ih, Nat.testBit_xor, pick_xor]
    congr 1
    ac_rfl
theorem remN_small (x : Nat) (hx : x < 2 ^ 15) : ∀ j, remN (7 + j) x = remN 7 x := by
  intro j
  induction j with
  | zero => rfl
  | succ j ih =>
    show remN (7 + j) (x ^^^ (if x.testBit (7 + j + 8) = true then 285 <<< (7 + j) else 0)) = _
    have e : x.testBit (7 + j + 8) = false := Nat.testBit_lt_two_pow (Nat.lt_of_lt_of_le hx (Nat.pow_le_pow_right (by decide) (by omega)))
    rw [if_neg (by rw [e]; decide), Nat.xor_zero, ih]
theorem rem_up {a i : Nat} (ha : a < 256) (hi : i < 8) : remN 56 (a <<< i) = up i a := by
  have hx : a <<< i < 2 ^ 15 := by
    rw [Nat.shiftLeft_eq]
    have h1 : a * 2 ^ i < 2 ^ 8 * 2 ^ i := Nat.mul_lt_mul_of_pos_right ha (Nat.two_pow_pos i)
    rw [← Nat.pow_add] at h1
    exact Nat.lt_of_lt_of_le h1 (Nat.pow_le_pow_right (by decide) (by omega))
  rw [show (56 : Nat) = 7 + 49 from rfl, remN_small _ hx 49]
  exact (show ∀ a : Fin 256, ∀ i : Fin 8, remN 7 (a.1 <<< i.1) = up i.1 a.1 by decide +kernel) ⟨a, ha⟩ ⟨i, hi⟩
def bitup (a b i : Nat) : Nat := if b.testBit i = true then up i a else 0
theorem rem_part {a b i : Nat} (ha : a < 256) (hi : i < 8) : remN 56 (part a b i) = bitup a b i := by
  unfold part bitup
  split
  · exact rem_up ha hi
  · decide
def bitE (b i : Nat) : Nat := if b.testBit i = true then E i else 0
theorem bits_sum {b : Nat} (hb : b < 256) : b = 0 ^^^ bitE b 0 ^^^ bitE b 1 ^^^ bitE b 2 ^^^ bitE b 3 ^^^ bitE b 4 ^^^ bitE b 5 ^^^ bitE b 6 ^^^ bitE b 7 :=
  (show ∀ b : Fin 256, b.1 = 0 ^^^ bitE b.1 0 ^^^ bitE b.1 1 ^^^ bitE b.1 2 ^^^ bitE b.1 3 ^^^ bitE b.1 4 ^^^ bitE b.1 5 ^^^ bitE b.1 6 ^^^ bitE b.1 7 by decide +kernel) ⟨b, hb⟩
theorem bitE_lt (b i : Nat) : bitE b i < 256 := by
  unfold bitE; split
  · exact E_lt i
  · decide
theorem mul_bitE {a : Nat} (ha : a < 256) (b i : Nat) : mul a (bitE b i) = bitup a b i := by
  unfold bitE bitup
  split
  · exact mul_E ha i
  · exact mul_zero a
theorem mul_bits {a b : Nat} (ha : a < 256) (hb : b < 256) : mul a b = 0 ^^^ bitup a b 0 ^^^ bitup a b 1 ^^^ bitup a b 2 ^^^ bitup a b 3 ^^^ bitup a b 4 ^^^ bitup a b 5 ^^^ bitup a b 6 ^^^ bitup a b 7 := by
  have x := fun {p q : Nat} (hp : p < 256) (hq : q < 256) => xor_lt hp hq
  have y := fun i => bitE_lt b i
  have z0 : (0 : Nat) < 256 := by decide
  refine (congrArg (mul a) (bits_sum hb)).trans ?_
  rw [mul_add (x (x (x (x (x (x (x z0 (y 0)) (y 1)) (y 2)) (y 3)) (y 4)) (y 5)) (y 6)) (y 7) ha, mul_add (x (x (x (x (x (x z0 (y 0)) (y 1)) (y 2)) (y 3)) (y 4)) (y 5)) (y 6) ha,
    mul_add (x (x (x (x (x z0 (y 0)) (y 1)) (y 2)) (y 3)) (y 4)) (y 5) ha, mul_add (x (x (x (x z0 (y 0)) (y 1)) (y 2)) (y 3)) (y 4) ha,
    mul_add (x (x (x z0 (y 0)) (y 1)) (y 2)) (y 3) ha, mul_add (x (x z0 (y 0)) (y 1)) (y 2) ha, mul_add (x z0 (y 0)) (y 1) ha, mul_add z0 (y 0) ha, mul_zero]
  simp only [mul_bitE ha]
theorem remN_zero : remN 56 0 = 0 := by decide
theorem spec_Mul_eq {a b : Nat} (ha : a < 256) (hb : b < 256) (k : Nat) (hk : 57 ≤ k) : spec_Mul.f k (a : Int) (b : Int) = some ((mul a b : Nat) : Int) := by
  unfold spec_Mul.f spec_product.f spec_remainder.f
  rw [show ((a : Int)) % 4294967296 = (a : Int) by omega, show ((b : Int)) % 4294967296 = (b : Int) by omega]
  have h1 := product_loop ha hb 32 0 0 k (by decide) rfl (by omega)
  rw [show ((0 : Nat) : Int) = 0 from rfl] at h1
  rw [h1, Option.bind_some]
  have hp : prodN a b 32 0 0 < 2 ^ 64 := by
    rw [prod_eq a b hb]
    have y := fun i (hi : i < 32) => Nat.lt_of_lt_of_le (part_lt (b := b) ha hi) (show 2 ^ 40 ≤ 2 ^ 64 by decide)
    have x := fun {p q : Nat} (hp : p < 2 ^ 64) (hq : q < 2 ^ 64) => Nat.xor_lt_two_pow hp hq
    exact x (x (x (x (x (x (x (x (by decide) (y 0 (by decide))) (y 1 (by decide))) (y 2 (by decide))) (y 3 (by decide))) (y 4 (by decide))) (y 5 (by decide))) (y 6 (by decide))) (y 7 (by decide))
  have h2 := rem_loop 56 (by decide) _ k hp (by omega)
  rw [show ((56 + 7 : Nat) : Int) = 63 from rfl] at h2
  rw [h2, Option.bind_some]
  have e : remN 56 (prodN a b 32 0 0) = mul a b := by
    rw [prod_eq a b hb, mul_bits ha hb]
    simp only [remN_xor, remN_zero, rem_part ha (show 0 < 8 by decide), rem_part ha (show 1 < 8 by decide), rem_part ha (show 2 < 8 by decide), rem_part ha (show 3 < 8 by decide), rem_part ha (show 4 < 8 by decide), rem_part ha (show 5 < 8 by decide), rem_part ha (show 6 < 8 by decide), rem_part ha (show 7 < 8 by decide)]
  rw [e]
  have := mul_lt a b
  congr 1
  omega
/-- The inverse. -/
theorem inverse_loop {a : Nat} (ha : a < 256) (d : Nat) : ∀ (b k : Nat), b + d = 256 → 0 < b → (∃ c, b ≤ c ∧ c < 256 ∧ mul a c = 1) → d + 57 ≤ k → ∃ c, c < 256 ∧ mul a c = 1 ∧ spec_Inverse.l0 k (a : Int) (b : Int) = some (c : Int) := by
  induction d with
  | zero => intro b k hb _ ⟨c, h1, h2, _⟩; omega
  | succ d ih =>
    intro b k hb hb0 ⟨c, h1, h2, h3⟩ hk
    obtain ⟨k, rfl⟩ : ∃ m, k = m + 1 := ⟨k - 1, by omega⟩
    have e : spec_Inverse.l0 (k + 1) (a : Int) (b : Int) = if ((mul a b : Nat) : Int) = 1 then some (b : Int) else spec_Inverse.l0 k (a : Int) ((b + 1 : Nat) : Int) := by
      conv => lhs; unfold spec_Inverse.l0
      rw [if_pos (by omega), show ((b : Int)) % 256 = (b : Int) by omega, spec_Mul_eq ha (by omega) k (by omega), Option.bind_some, ← w64 (n := b + 1) (by omega), Int.natCast_add]
      rfl
    by_cases hm : mul a b = 1
    · exact ⟨b, by omega, hm, by rw [e, if_pos (by rw [hm]; rfl)]⟩
    · rw [e, if_neg (fun h => hm (by omega))]
      exact ih (b + 1) k (by omega) (by omega) ⟨c, by rcases Nat.lt_or_ge b c with h | h
                                                      · exact h
                                                      · exact absurd (by rw [show b = c by omega]; exact h3) hm, h2, h3⟩ (by omega)
theorem exists_inv {a : Nat} (ha : a < 256) (h0 : a ≠ 0) : ∃ c, c < 256 ∧ mul a c = 1 := ⟨div 1 a, div_lt _ _, by rw [mul_comm]; exact div_mul (by decide) ha h0⟩
theorem inv_unique {a c d : Nat} (ha : a < 256) (hc : c < 256) (hd : d < 256) (h1 : mul a c = 1) (h2 : mul a d = 1) : c = d := by
  have e : mul (mul c a) d = mul c (mul a d) := mul_assoc hc ha hd
  rw [mul_comm c a, h1, h2, mul_one hc, mul_comm, mul_one hd] at e
  exact e.symm
theorem spec_Inverse_eq {a : Nat} (ha : a < 256) (h0 : a ≠ 0) (k : Nat) (hk : 400 ≤ k) : spec_Inverse.f k (a : Int) = some ((div 1 a : Nat) : Int) := by
  obtain ⟨c, hc, hm⟩ := exists_inv ha h0
  have hc0 : c ≠ 0 := by rintro rfl; rw [mul_zero] at hm; cases hm
  obtain ⟨d, hd, hm2, e⟩ := inverse_loop ha 255 1 k (by omega) (by omega) ⟨c, by omega, hc, hm⟩ (by omega)
  have h3 : mul a (div 1 a) = 1 := by rw [mul_comm]; exact div_mul (by decide) ha h0
  rw [← inv_unique ha hd (div_lt _ _) hm2 h3]
  exact e
end Go.Proofs.YtladpdeneiaaeaaDoor.FldI
namespace Go.Proofs.YtladpdeneiaaeaaDoor.Inv
open Go.RowKit Go.Proofs.YtladpdeneiaaeaaDoorW.PrintWords Go.Proofs.YtladpdeneiaaeaaDoorW.PrintLast Go.Proofs.YtladpdeneiaaeaaDoorW.PrintMore
/-- A product of the reference's. -/
theorem smul.calls (a b : Int) (w : World) (ha : Byte a) (hb : Byte b) : Calls Tryd.prog 30 #[.int .u8 a, .int .u8 b] w fun e w' => e = .returned (.int .u8 (MM a b)) ∧ Drawn0 w w' := by
  obtain ⟨n, rfl, hn⟩ := byte_nat ha
  obtain ⟨m, rfl, hm⟩ := byte_nat hb
  exact PInv.spec_Mul.calls 57 n m _ w (by rw [mm_nat]; exact FldI.spec_Mul_eq hn hm 57 (Nat.le_refl _))
theorem sinv.calls (a : Int) (w : World) (ha : Byte a) (h0 : a ≠ 0) : Calls Tryd.prog 49 #[.int .u8 a] w fun e w' => e = .returned (.int .u8 (II a)) ∧ Drawn0 w w' := by
  obtain ⟨n, rfl, hn⟩ := byte_nat ha
  exact PInv.spec_Inverse.calls 400 n _ w (by unfold II; rw [Int.toNat_natCast]; exact FldI.spec_Inverse_eq hn (by omega) 400 (Nat.le_refl _))
end Go.Proofs.YtladpdeneiaaeaaDoor.Inv
