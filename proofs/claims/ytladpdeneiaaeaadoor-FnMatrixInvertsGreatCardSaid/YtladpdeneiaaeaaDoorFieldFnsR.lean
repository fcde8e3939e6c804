import Derived.Test.YtladpdeneiaaeaaDoorFieldR
import Derived.Laws.BitsAllLaws
/-! The program's own arithmetic of bytes, over natural numbers. -/
namespace Go.Proofs.YtladpdeneiaaeaaDoor.FldR
open Go.Proofs.YtladpdeneiaaeaaDoor.PRow
theorem getD_map (l : List Nat) (i : Nat) : (l.map Int.ofNat).getD i 0 = ((l.getD i 0 : Nat) : Int) := by
  rw [List.getD_eq_getElem?_getD, List.getD_eq_getElem?_getD, List.getElem?_map]
  cases l[i]? <;> rfl
theorem lg_eq (a : Nat) : lg (a : Int) = ((L a : Nat) : Int) := by
  unfold lg logTab
  rw [Int.toNat_natCast, getD_map]
  rfl
theorem galMultiply_eq {a b : Nat} (ha : a < 256) (hb : b < 256) : reedsolomon_galMultiply.f (a : Int) (b : Int) = some ((mul a b : Nat) : Int) := by
  unfold reedsolomon_galMultiply.f mul
  rw [if_pos (by omega)]
  by_cases h : a = 0
  · rw [if_pos (by omega), if_pos h]; rfl
  · rw [if_neg (by omega), if_neg h]
    by_cases k : b = 0
    · rw [if_pos (by omega), if_pos k]; rfl
    · rw [if_neg (by omega), if_neg k, lg_eq, lg_eq]
      have h1 := L_lt a ha
      have h2 := L_lt b hb
      unfold expTab sumLog
      rw [getD_map]
      by_cases hs : 255 ≤ L a + L b
      · rw [if_pos (by omega), show ((L a : Int) + (L b : Int) - 255).toNat = L a + L b - 255 by omega, expN_get (by omega), ← E_period, show L a + L b - 255 + 255 = L a + L b by omega]
      · rw [if_neg (by omega), show ((L a : Int) + (L b : Int)).toNat = L a + L b by omega, expN_get (by omega)]
end Go.Proofs.YtladpdeneiaaeaaDoor.FldR
