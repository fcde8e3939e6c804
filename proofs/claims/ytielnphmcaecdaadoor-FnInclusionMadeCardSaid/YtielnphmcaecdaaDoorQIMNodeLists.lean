-- Written by a program of this session (wip/tools)
import Derived.Test.YtielnphmcaecdaaDoorQIMRangeFns
import Derived.Test.YtielnphmcaecdaaDoorQIMPAllx4
namespace Go.Proofs.YtielnphmcaecdaaDoor.PAll
open Go.RowKit Go.Proofs.YtielnphmcaecdaaDoor.Num Go.Proofs.YtielnphmcaecdaaDoor.Mth Go.Proofs.YtielnphmcaecdaaDoorW.PrintWords Go.Proofs.YtielnphmcaecdaaDoorW.PrintLast
def toI (x : S99) : S49 := ⟨x.f0, x.f1⟩
theorem drop_rd {α : Type} (l : List α) (i : Nat) (d : α) (h : i < l.length) : l.drop i = l.getD i d :: l.drop (i + 1) := by
  rw [List.drop_eq_getElem_cons h, List.getD_eq_getElem?_getD, List.getElem?_eq_getElem h]; rfl
theorem fromNodes_loop (l : List S99) (hl : l.length < 4398046511104) (d : Nat) : ∀ (i k : Nat) (out : List S49), i + d = l.length → out.length + d < 8796093022208 → d < k →
    impl_fromNodes.l0 k out l (l.length : Int) (i : Int) = some (out ++ (l.drop i).map toI) := by
  induction d with
  | zero =>
    intro i k out hi ho hk
    obtain ⟨k, rfl⟩ : ∃ m, k = m + 1 := ⟨k - 1, by omega⟩
    rw [impl_fromNodes.l0, if_neg (by omega), List.drop_of_length_le (by omega)]; simp
  | succ d ih =>
    intro i k out hi ho hk
    obtain ⟨k, rfl⟩ : ∃ m, k = m + 1 := ⟨k - 1, by omega⟩
    have hlt : i < l.length := by omega
    have hlen : out.length < 8796093022208 := by omega
    have hw : wrap64 ((i : Int) + 1) = ((i + 1 : Nat) : Int) := w64_add i 1 (by omega)
    have hi := ih (i + 1) k (out ++ [toI (rd_T99 l (i : Int))]) (by omega) (by simp; omega) (by omega)
    rw [impl_fromNodes.l0, if_pos (by omega), if_pos (Int.natCast_nonneg i), if_pos (by omega)]
    show (if out.length < 8796093022208 then impl_fromNodes.l0 k (out ++ [toI (rd_T99 l (i : Int))]) l (l.length : Int) (wrap64 ((i : Int) + 1)) else none) = _
    rw [if_pos hlen, hw, hi, drop_rd l i z99 hlt, List.map_cons, List.append_assoc]; rfl
theorem impl_fromNodes.eq (l : List S99) (hl : l.length < 4398046511104) (K : Nat) (hK : l.length < K) : impl_fromNodes.f K l = some (l.map toI) := by
  have := fromNodes_loop l hl l.length 0 K [] (by omega) (by simp; omega) (by omega)
  unfold impl_fromNodes.f
  rw [show (0 : Int) = ((0 : Nat) : Int) from rfl, this]; rfl
end Go.Proofs.YtielnphmcaecdaaDoor.PAll
