import Derived.Test.YtladpdeneiaaeaaDoorExtGalI
import Derived.Test.YtladpdeneiaaeaaDoorMatMem
/-! Products, sums and inverses of bytes: what the elimination's plain law wants of them; the calls that make them. -/
namespace Go.Proofs.YtladpdeneiaaeaaDoor.Inv
open Go.RowKit Go.Proofs.YtladpdeneiaaeaaDoorW.PrintWords Go.Proofs.YtladpdeneiaaeaaDoorW.PrintLast Go.Proofs.YtladpdeneiaaeaaDoorW.PrintMore
set_option linter.unusedVariables false
def MM (a b : Int) : Int := ((FldR.mul a.toNat b.toNat : Nat) : Int)
def XX (a b : Int) : Int := Go.bits .xor .u8 a b
def II (a : Int) : Int := ((FldR.div 1 a.toNat : Nat) : Int)
theorem byte_nat {a : Int} (h : Byte a) : ∃ n : Nat, a = (n : Int) ∧ n < 256 := ⟨a.toNat, by have := h.1; omega, by have := h.1; have := h.2; omega⟩
theorem xx_nat {a b : Nat} (ha : a < 256) (hb : b < 256) : XX (a : Int) (b : Int) = ((a ^^^ b : Nat) : Int) := u8_xor_nat a b ha hb
theorem mm_nat (a b : Nat) : MM (a : Int) (b : Int) = ((FldR.mul a b : Nat) : Int) := by unfold MM; rw [Int.toNat_natCast, Int.toNat_natCast]
theorem fld : Fld MM XX II where
  mb := fun a b => ⟨Int.natCast_nonneg _, by unfold MM; have := FldR.mul_lt a.toNat b.toNat; omega⟩
  xb := fun a b ha hb => by
    obtain ⟨n, rfl, hn⟩ := byte_nat ha
    obtain ⟨m, rfl, hm⟩ := byte_nat hb
    rw [xx_nat hn hm]
    have := FldR.xor_lt hn hm
    exact ⟨Int.natCast_nonneg _, by omega⟩
  m0 := fun a => by unfold MM; rw [show (0 : Int).toNat = 0 from rfl, FldR.mul_zero]; rfl
  z0 := fun a => by unfold MM; rw [show (0 : Int).toNat = 0 from rfl, FldR.zero_mul]; rfl
  m1 := fun a ha => by
    obtain ⟨n, rfl, hn⟩ := byte_nat ha
    rw [show (1 : Int) = ((1 : Nat) : Int) from rfl, mm_nat, FldR.mul_one hn]
  mi := fun a ha h0 => by
    obtain ⟨n, rfl, hn⟩ := byte_nat ha
    unfold II
    rw [Int.toNat_natCast, mm_nat, FldR.mul_comm, FldR.div_mul (by decide) hn (by omega)]
    rfl
  i1 := by decide +kernel
  x0 := fun a ha => by
    obtain ⟨n, rfl, hn⟩ := byte_nat ha
    rw [show (0 : Int) = ((0 : Nat) : Int) from rfl, xx_nat hn (by decide), Nat.xor_zero]
  xx := fun a ha => by
    obtain ⟨n, rfl, hn⟩ := byte_nat ha
    rw [xx_nat hn hn, Nat.xor_self]; rfl
theorem over_eq {a : Int} (h0 : 0 < a) (h1 : a < 256) : PInv.over a = II a := by
  obtain ⟨n, rfl⟩ := Int.eq_ofNat_of_zero_le (show 0 ≤ a by omega)
  have hl := FldR.L_lt n (by omega)
  unfold PInv.over II
  rw [FldR.lg_eq, Int.toNat_natCast]
  unfold PRow.expTab
  rw [FldR.getD_map, show (255 - ((FldR.L n : Nat) : Int)).toNat = 255 - FldR.L n by omega, FldR.expN_get (by omega)]
  unfold FldR.div
  rw [if_neg (by decide), show FldR.L 1 = 0 by decide +kernel, Nat.zero_add]
/-- A product of the program's. -/
theorem gmul.calls (a b : Int) (w : World) (hG : PInv.Glob w) (ha : Byte a) (hb : Byte b) : Calls Tryd.prog 44 #[.int .u8 a, .int .u8 b] w fun e w' => e = .returned (.int .u8 (MM a b)) ∧ Drawn0 w w' := by
  obtain ⟨n, rfl, hn⟩ := byte_nat ha
  obtain ⟨m, rfl, hm⟩ := byte_nat hb
  exact PRow.reedsolomon_galMultiply.calls n m _ w hG.row (by rw [mm_nat]; exact FldR.galMultiply_eq hn hm)
theorem gover.calls (a : Int) (w : World) (hG : PInv.Glob w) (h0 : 0 < a) (h1 : a < 256) : Calls Tryd.prog 64 #[.int .u8 a] w fun e w' => e = .returned (.int .u8 (II a)) ∧ Drawn0 w w' := by
  rw [← over_eq h0 h1]; exact PInv.galOneOver.calls a w hG h0 h1
/-! ### A row that is being written -/
def mix (t r : List Int) (c : Nat) : List Int := t.take c ++ r.drop c
theorem mix_zero (t r : List Int) : mix t r 0 = r := rfl
theorem mix_full {t r : List Int} {c : Nat} (h : t.length = c) (h2 : r.length = c) : mix t r c = t := by
  unfold mix; rw [List.take_of_length_le (by omega), List.drop_of_length_le (by omega), List.append_nil]
theorem mix_len {t r : List Int} (h : t.length = r.length) (c : Nat) : (mix t r c).length = r.length := by
  unfold mix; rw [List.length_append, List.length_take, List.length_drop]; omega
theorem mix_at {t r : List Int} (h : t.length = r.length) {c j : Nat} (hc : c ≤ j) (hj : j < r.length) : (mix t r c).getD j 0 = r.getD j 0 := by
  unfold mix
  rw [List.getD_eq_getElem?_getD, List.getD_eq_getElem?_getD, List.getElem?_append_right (by rw [List.length_take]; omega), List.length_take, List.getElem?_drop, show c + (j - min c t.length) = j by omega]
theorem mix_set {t r : List Int} (h : t.length = r.length) {c : Nat} (hc : c < r.length) : (mix t r c).set c (t.getD c 0) = mix t r (c + 1) := by
  unfold mix
  rw [List.set_append_right _ _ (by rw [List.length_take]; omega), List.length_take, show c - min c t.length = 0 by omega, List.drop_eq_getElem_cons hc, List.set_cons_zero, List.take_succ_eq_append_getElem (by omega : c < t.length), List.append_assoc]
  rw [List.getD_eq_getElem?_getD, List.getElem?_eq_getElem (by omega : c < t.length)]
  rfl
end Go.Proofs.YtladpdeneiaaeaaDoor.Inv
