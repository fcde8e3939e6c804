-- Written by a program of this session (wip/tools)
import Derived.Test.YtielnphmcaecdaaDoorQIMPAllx3
import Derived.Test.YtielnphmcaecdaaDoorQIMNum
import Derived.Test.YtielnphmcaecdaaDoorQIMMath
import Derived.Laws.Bits128
import Derived.KernelRfl
namespace Go.Proofs.YtielnphmcaecdaaDoor.PAll
open Go.RowKit Go.Proofs.YtielnphmcaecdaaDoor.Num Go.Proofs.YtielnphmcaecdaaDoor.Mth Go.Proofs.YtielnphmcaecdaaDoorW.PrintWords Go.Proofs.YtielnphmcaecdaaDoorW.PrintLast
theorem ndiv (n m : Nat) : (n : Int) / (m : Int) = ((n / m : Nat) : Int) := (Int.natCast_ediv n m).symm
theorem and_le2 (a b : Nat) : a &&& b ≤ b := Nat.and_le_right
theorem msk55 : msk 85 8 = 6148914691236517205 := rfl
theorem msk33 : msk 51 8 = 3689348814741910323 := rfl
theorem msk0f : msk 15 8 = 1085102592571150095 := rfl
theorem st1_le (x : Nat) : st1 8 x ≤ 12297829382473034410 := by
  have h1 := and_le2 (x / 2) (msk 85 8); have h2 := and_le2 x (msk 85 8)
  rw [msk55] at h1 h2
  unfold st1; rw [msk55]; omega
theorem st2_le (x : Nat) : st2 8 x ≤ 7378697629483820646 := by
  have h1 := and_le2 (x / 4) (msk 51 8); have h2 := and_le2 x (msk 51 8)
  rw [msk33] at h1 h2
  unfold st2; rw [msk33]; omega
theorem bits_OnesCount64.eq (x : Nat) (hx : x < 18446744073709551616) : bits_OnesCount64.f (x : Int) = some ((ones x : Nat) : Int) := by
  have h1 := st1_le x
  have h2 := st2_le (st1 8 x)
  have hs := swar x hx
  dsimp only at hs
  have h3 : st3 8 (st2 8 (st1 8 x)) = cnt 8 x := st3_all 8 x
  have d2 : (x : Int) / 2 = ((x / 2 : Nat) : Int) := ndiv x 2
  have a1 : Go.bits .and .u64 ((x / 2 : Nat) : Int) 6148914691236517205 = ((x / 2 &&& 6148914691236517205 : Nat) : Int) := and64 (x / 2) 6148914691236517205 (by omega) (by omega)
  have a2 : Go.bits .and .u64 (x : Int) 6148914691236517205 = ((x &&& 6148914691236517205 : Nat) : Int) := and64 x 6148914691236517205 (by omega) (by omega)
  have e1 : IntKind.u64.wrap (Go.bits .and .u64 ((x : Int) / 2) 6148914691236517205 + Go.bits .and .u64 (x : Int) 6148914691236517205) = ((st1 8 x : Nat) : Int) := by
    rw [d2, a1, a2, ← Int.natCast_add, ← msk55]
    exact u64in (n := st1 8 x) (by omega)
  generalize st1 8 x = y at *
  have d3 : (y : Int) / 4 = ((y / 4 : Nat) : Int) := ndiv y 4
  have b1 : Go.bits .and .u64 ((y / 4 : Nat) : Int) 3689348814741910323 = ((y / 4 &&& 3689348814741910323 : Nat) : Int) := and64 (y / 4) 3689348814741910323 (by omega) (by omega)
  have b2 : Go.bits .and .u64 (y : Int) 3689348814741910323 = ((y &&& 3689348814741910323 : Nat) : Int) := and64 y 3689348814741910323 (by omega) (by omega)
  have e2 : IntKind.u64.wrap (Go.bits .and .u64 ((y : Int) / 4) 3689348814741910323 + Go.bits .and .u64 (y : Int) 3689348814741910323) = ((st2 8 y : Nat) : Int) := by
    rw [d3, b1, b2, ← Int.natCast_add, ← msk33]
    exact u64in (n := st2 8 y) (by omega)
  generalize st2 8 y = z at *
  have d4 : (z : Int) / 16 = ((z / 16 : Nat) : Int) := ndiv z 16
  have c0 : IntKind.u64.wrap ((z : Int) / 16 + (z : Int)) = ((z / 16 + z : Nat) : Int) := by
    rw [d4, ← Int.natCast_add]
    exact u64in (by omega)
  have e3 : Go.bits .and .u64 (IntKind.u64.wrap ((z : Int) / 16 + (z : Int))) 1085102592571150095 = ((cnt 8 x : Nat) : Int) := by
    rw [c0, ← h3, st3, msk0f]
    exact and64 (z / 16 + z) 1085102592571150095 (by omega) (by omega)
  generalize cnt 8 x = c at *
  have d5 : (c : Int) / 256 = ((c / 256 : Nat) : Int) := ndiv c 256
  have e4 : IntKind.u64.wrap ((c : Int) + (c : Int) / 256) = ((c + c / 256 : Nat) : Int) := by
    rw [d5, ← Int.natCast_add]
    exact u64in (by omega)
  have hp := hs.2.1
  generalize c + c / 256 = p at *
  have d6 : (p : Int) / 65536 = ((p / 65536 : Nat) : Int) := ndiv p 65536
  have e5 : IntKind.u64.wrap ((p : Int) + (p : Int) / 65536) = ((p + p / 65536 : Nat) : Int) := by
    rw [d6, ← Int.natCast_add]
    exact u64in (by omega)
  generalize p + p / 65536 = q at *
  have d7 : (q : Int) / 4294967296 = ((q / 4294967296 : Nat) : Int) := ndiv q 4294967296
  have e6 : IntKind.u64.wrap ((q : Int) + (q : Int) / 4294967296) = ((q + q / 4294967296 : Nat) : Int) := by
    rw [d7, ← Int.natCast_add]
    exact u64in (by omega)
  generalize q + q / 4294967296 = r at *
  have hr : Go.bits .and .i64 (wrap64 (r : Int)) 127 = ((ones x : Nat) : Int) := by
    rw [i64_and127, w64 hs.2.1, ← hs.1]
    rfl
  unfold bits_OnesCount64.f
  rw [e1, e2, e3, e4, e5, e6, hr]
def lenTab : ByteArray := (⟨#[0, 1, 2, 2, 3, 3, 3, 3, 4, 4, 4, 4, 4, 4, 4, 4, 5, 5, 5, 5, 5, 5, 5, 5, 5, 5, 5, 5, 5, 5, 5, 5, 6, 6, 6, 6, 6, 6, 6, 6, 6, 6, 6, 6, 6, 6, 6, 6, 6, 6, 6, 6, 6, 6, 6, 6, 6, 6, 6, 6, 6, 6, 6, 6, 7, 7, 7, 7, 7, 7, 7, 7, 7, 7, 7, 7, 7, 7, 7, 7, 7, 7, 7, 7, 7, 7, 7, 7, 7, 7, 7, 7, 7, 7, 7, 7, 7, 7, 7, 7, 7, 7, 7, 7, 7, 7, 7, 7, 7, 7, 7, 7, 7, 7, 7, 7, 7, 7, 7, 7, 7, 7, 7, 7, 7, 7, 7, 7, 8, 8, 8, 8, 8, 8, 8, 8, 8, 8, 8, 8, 8, 8, 8, 8, 8, 8, 8, 8, 8, 8, 8, 8, 8, 8, 8, 8, 8, 8, 8, 8, 8, 8, 8, 8, 8, 8, 8, 8, 8, 8, 8, 8, 8, 8, 8, 8, 8, 8, 8, 8, 8, 8, 8, 8, 8, 8, 8, 8, 8, 8, 8, 8, 8, 8, 8, 8, 8, 8, 8, 8, 8, 8, 8, 8, 8, 8, 8, 8, 8, 8, 8, 8, 8, 8, 8, 8, 8, 8, 8, 8, 8, 8, 8, 8, 8, 8, 8, 8, 8, 8, 8, 8, 8, 8, 8, 8, 8, 8, 8, 8, 8, 8, 8, 8, 8, 8, 8, 8, 8, 8, 8, 8, 8, 8, 8, 8]⟩ : ByteArray)
def lenList : List Nat := [0, 1, 2, 2, 3, 3, 3, 3, 4, 4, 4, 4, 4, 4, 4, 4, 5, 5, 5, 5, 5, 5, 5, 5, 5, 5, 5, 5, 5, 5, 5, 5, 6, 6, 6, 6, 6, 6, 6, 6, 6, 6, 6, 6, 6, 6, 6, 6, 6, 6, 6, 6, 6, 6, 6, 6, 6, 6, 6, 6, 6, 6, 6, 6, 7, 7, 7, 7, 7, 7, 7, 7, 7, 7, 7, 7, 7, 7, 7, 7, 7, 7, 7, 7, 7, 7, 7, 7, 7, 7, 7, 7, 7, 7, 7, 7, 7, 7, 7, 7, 7, 7, 7, 7, 7, 7, 7, 7, 7, 7, 7, 7, 7, 7, 7, 7, 7, 7, 7, 7, 7, 7, 7, 7, 7, 7, 7, 7, 8, 8, 8, 8, 8, 8, 8, 8, 8, 8, 8, 8, 8, 8, 8, 8, 8, 8, 8, 8, 8, 8, 8, 8, 8, 8, 8, 8, 8, 8, 8, 8, 8, 8, 8, 8, 8, 8, 8, 8, 8, 8, 8, 8, 8, 8, 8, 8, 8, 8, 8, 8, 8, 8, 8, 8, 8, 8, 8, 8, 8, 8, 8, 8, 8, 8, 8, 8, 8, 8, 8, 8, 8, 8, 8, 8, 8, 8, 8, 8, 8, 8, 8, 8, 8, 8, 8, 8, 8, 8, 8, 8, 8, 8, 8, 8, 8, 8, 8, 8, 8, 8, 8, 8, 8, 8, 8, 8, 8, 8, 8, 8, 8, 8, 8, 8, 8, 8, 8, 8, 8, 8, 8, 8, 8, 8, 8, 8]
theorem lenList_all : lenList = (List.range 256).map blen := by decide +kernel
theorem lenTab_same : lenTab.data.toList.map UInt8.toNat = lenList := by kernel_rfl
theorem lenTab_all : lenTab.data.toList.map UInt8.toNat = (List.range 256).map blen := lenTab_same.trans lenList_all
theorem lenTab_list (i : Nat) (h : i < 256) : (lenTab.data.toList.getD i 0).toNat = blen i := by
  have h1 : (lenTab.data.toList.map UInt8.toNat)[i]? = ((List.range 256).map blen)[i]? := by rw [lenTab_all]
  rw [List.getElem?_map, List.getElem?_map, List.getElem?_range h] at h1
  rw [List.getD_eq_getElem?_getD]
  cases h2 : lenTab.data.toList[i]? with
  | none => rw [h2] at h1; simp at h1
  | some b => rw [h2] at h1; simpa using h1
theorem lenTab_size : lenTab.size = 256 := by kernel_rfl
theorem bt_list (s : ByteArray) (i : Nat) (h : i < s.size) : bt s (i : Int) = ((s.data.toList.getD i 0).toNat : Int) := by
  have h' : i < s.data.size := h
  unfold bt
  rw [dif_pos (by simpa using h)]
  simp only [Int.toNat_natCast]
  rw [List.getD_eq_getElem?_getD, Array.getElem?_toList, Array.getElem?_eq_getElem h']
  rfl
theorem lenTab_at (i : Nat) (h : i < 256) : bt lenTab (i : Int) = ((blen i : Nat) : Int) := by
  rw [bt_list _ _ (by rw [lenTab_size]; exact h), lenTab_list i h]
theorem blen_shift (x s : Nat) (h : 2 ^ s ≤ x) : blen x = blen (x / 2 ^ s) + s := by
  induction s generalizing x with
  | zero => simp
  | succ s ih =>
    have hp := Nat.two_pow_pos s
    rw [Nat.pow_succ] at h
    rw [blen_pos (by omega), ih (x / 2) (by omega), Nat.div_div_eq_div_mul, Nat.pow_succ, Nat.mul_comm 2]; omega
theorem w64_add (a b : Nat) (h : a + b < 9223372036854775808) : wrap64 ((a : Int) + (b : Int)) = ((a + b : Nat) : Int) := by
  rw [← Int.natCast_add]; exact w64 h
theorem byte_in (y : Nat) (h : y < 256) : (y : Int) % 256 = (y : Int) := by omega
theorem blen_byte {y : Nat} (h : y < 256) : blen y ≤ 8 := blen_le.2 h
theorem len_end (b s : Nat) (hb : b ≤ 8) (hs : s ≤ 256) : wrap64 ((s : Int) + wrap64 (b : Int)) = ((b + s : Nat) : Int) := by
  rw [w64 (n := b) (by omega), w64_add s b (by omega), Nat.add_comm]
theorem shift_end (s d : Nat) (hs : s ≤ 256) (hd : d ≤ 256) : wrap64 ((s : Int) + (d : Int)) = ((s + d : Nat) : Int) := w64_add s d (by omega)
theorem bits_Len64.low (k : Nat) (x s : Nat) (hx : x < 4294967296) (hs : s ≤ 64) : bits_Len64.j0 (k + 1) (x : Int) (s : Int) = some ((blen x + s : Nat) : Int) := by
  show (if (x : Int) ≥ 65536 then (if ((x : Int) / 65536) ≥ 256 then (if 0 ≤ ((((x : Int) / 65536) / 256) % 256) then (if ((((x : Int) / 65536) / 256) % 256) < 256 then (some (wrap64 ((wrap64 ((wrap64 ((s : Int) + 16)) + 8)) + (wrap64 (bt lenTab ((((x : Int) / 65536) / 256) % 256)))))) else (none)) else (none)) else (if 0 ≤ (((x : Int) / 65536) % 256) then (if (((x : Int) / 65536) % 256) < 256 then (some (wrap64 ((wrap64 ((s : Int) + 16)) + (wrap64 (bt lenTab (((x : Int) / 65536) % 256)))))) else (none)) else (none))) else (if (x : Int) ≥ 256 then (if 0 ≤ (((x : Int) / 256) % 256) then (if (((x : Int) / 256) % 256) < 256 then (some (wrap64 ((wrap64 ((s : Int) + 8)) + (wrap64 (bt lenTab (((x : Int) / 256) % 256)))))) else (none)) else (none)) else (if 0 ≤ (((x : Int)) % 256) then (if (((x : Int)) % 256) < 256 then (some (wrap64 ((s : Int) + (wrap64 (bt lenTab (((x : Int)) % 256)))))) else (none)) else (none)))) = _
  have d1 : (x : Int) / 65536 = ((x / 65536 : Nat) : Int) := ndiv x 65536
  have d2 : (x : Int) / 256 = ((x / 256 : Nat) : Int) := ndiv x 256
  have d3 : ((x / 65536 : Nat) : Int) / 256 = ((x / 65536 / 256 : Nat) : Int) := ndiv (x / 65536) 256
  have s16 : wrap64 ((s : Int) + 16) = ((s + 16 : Nat) : Int) := shift_end s 16 (by omega) (by omega)
  have s8 : wrap64 ((s : Int) + 8) = ((s + 8 : Nat) : Int) := shift_end s 8 (by omega) (by omega)
  have s24 : wrap64 (((s + 16 : Nat) : Int) + 8) = ((s + 16 + 8 : Nat) : Int) := shift_end (s + 16) 8 (by omega) (by omega)
  rw [d1, d2, d3, s16, s8, s24]
  by_cases h1 : 65536 ≤ x
  · rw [if_pos (by omega)]
    by_cases h2 : 256 ≤ x / 65536
    · have h3 : x / 65536 / 256 < 256 := by omega
      have e := blen_shift x 24 (by omega)
      rw [show x / 2 ^ 24 = x / 65536 / 256 by omega] at e
      rw [if_pos (by omega), byte_in _ h3, lenTab_at _ h3, if_pos (by omega), if_pos (by omega), len_end _ _ (blen_byte h3) (by omega), e]
      congr 2; omega
    · have h3 : x / 65536 < 256 := by omega
      have e := blen_shift x 16 (by omega)
      rw [show x / 2 ^ 16 = x / 65536 by omega] at e
      rw [if_neg (by omega), byte_in _ h3, lenTab_at _ h3, if_pos (by omega), if_pos (by omega), len_end _ _ (blen_byte h3) (by omega), e]
      congr 2; omega
  · rw [if_neg (by omega)]
    by_cases h2 : 256 ≤ x
    · have h3 : x / 256 < 256 := by omega
      have e := blen_shift x 8 (by omega)
      rw [show x / 2 ^ 8 = x / 256 by omega] at e
      rw [if_pos (by omega), byte_in _ h3, lenTab_at _ h3, if_pos (by omega), if_pos (by omega), len_end _ _ (blen_byte h3) (by omega), e]
      congr 2; omega
    · have h3 : x < 256 := by omega
      rw [if_neg (by omega), byte_in _ h3, lenTab_at _ h3, if_pos (by omega), if_pos (by omega), len_end _ _ (blen_byte h3) (by omega)]
theorem bits_Len64.eq (k : Nat) (x : Nat) (hx : x < 18446744073709551616) : bits_Len64.f (k + 1) (x : Int) = some ((blen x : Nat) : Int) := by
  unfold bits_Len64.f
  have d1 : (x : Int) / 4294967296 = ((x / 4294967296 : Nat) : Int) := ndiv x 4294967296
  by_cases h : 4294967296 ≤ x
  · rw [if_pos (by omega), d1]
    have e := blen_shift x 32 (by omega)
    rw [show x / 2 ^ 32 = x / 4294967296 by omega] at e
    rw [e]
    exact bits_Len64.low k (x / 4294967296) 32 (by omega) (by omega)
  · rw [if_neg (by omega)]
    exact bits_Len64.low k x 0 (by omega) (by omega)
end Go.Proofs.YtielnphmcaecdaaDoor.PAll
