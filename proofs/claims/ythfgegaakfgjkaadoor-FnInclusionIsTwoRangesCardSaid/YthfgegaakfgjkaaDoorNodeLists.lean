import Derived.Test.YthfgegaakfgjkaaDoorRangeFns
import Derived.Test.YthfgegaakfgjkaaDoorPAllx3
/-!
Lists of nodes: turned from the program's into the thin package's, compared.
-/
namespace Go.Proofs.YthfgegaakfgjkaaDoor.PAll
open Go.RowKit Go.Proofs.YthfgegaakfgjkaaDoor.Num Go.Proofs.YthfgegaakfgjkaaDoor.Mth Go.Proofs.YthfgegaakfgjkaaDoorW.PrintWords Go.Proofs.YthfgegaakfgjkaaDoorW.PrintLast
def toI (x : S46) : S36 := ⟨x.f0, x.f1⟩
def toC (x : S36) : S46 := ⟨x.f0, x.f1⟩
theorem toI_cnode (p : Nat × Nat) : toI (cnode p) = inode p := rfl
theorem toI_toC (x : S36) : toI (toC x) = x := rfl
theorem drop_rd {α : Type} (l : List α) (i : Nat) (d : α) (h : i < l.length) : l.drop i = l.getD i d :: l.drop (i + 1) := by
  rw [List.drop_eq_getElem_cons h, List.getD_eq_getElem?_getD, List.getElem?_eq_getElem h]; rfl
theorem fromNodes_loop (l : List S46) (hl : l.length < 4398046511104) (d : Nat) : ∀ (i k : Nat) (out : List S36), i + d = l.length → out.length + d < 8796093022208 → d < k →
    impl_fromNodes.l0 k out l (l.length : Int) (i : Int) = some (out ++ (l.drop i).map toI) := by
  induction d with
  | zero =>
    intro i k out hi ho hk
    obtain ⟨k, rfl⟩ : ∃ m, k = m + 1 := ⟨k - 1, by omega⟩
    rw [impl_fromNodes.l0, if_neg (by omega), List.drop_of_length_le (by omega)]; simp
  | succ d ih =>
    intro i k out hi ho hk
    obtain ⟨k, rfl⟩ : ∃ m, k = m + 1 := ⟨k - 1, by omega⟩
    have hlt : i < l.length := by omega
    have hlen : out.length < 8796093022208 := by omega
    have hw : wrap64 ((i : Int) + 1) = ((i + 1 : Nat) : Int) := w64_add i 1 (by omega)
    have hi := ih (i + 1) k (out ++ [toI (rd_T46 l (i : Int))]) (by omega) (by simp; omega) (by omega)
    rw [impl_fromNodes.l0, if_pos (by omega), if_pos (Int.natCast_nonneg i), if_pos (by omega)]
    show (if out.length < 8796093022208 then impl_fromNodes.l0 k (out ++ [toI (rd_T46 l (i : Int))]) l (l.length : Int) (wrap64 ((i : Int) + 1)) else none) = _
    rw [if_pos hlen, hw, hi, drop_rd l i z46 hlt, List.map_cons, List.append_assoc]; rfl
theorem impl_fromNodes.eq (l : List S46) (hl : l.length < 4398046511104) (K : Nat) (hK : l.length < K) : impl_fromNodes.f K l = some (l.map toI) := by
  have := fromNodes_loop l hl l.length 0 K [] (by omega) (by simp; omega) (by omega)
  unfold impl_fromNodes.f
  rw [show (0 : Int) = ((0 : Nat) : Int) from rfl, this]; rfl
theorem toNodes_loop (b e : Nat) (h : b ≤ e) (he : e < 18446744073709551616) (l : List S36) (hl : l.length ≤ 2147483647) (d : Nat) : ∀ (i k : Nat) (out : List S46), i + d = l.length → out.length = i → d + l.length + 300 < k →
    impl_RangeNodes.l0 k (b : Int) (e : Int) out l (l.length : Int) (i : Int) = some ((out ++ (l.drop i).map toC ++ (Nds 0 b e).map cnode).map toI) := by
  induction d with
  | zero =>
    intro i k out hi ho hk
    obtain ⟨k, rfl⟩ : ∃ m, k = m + 1 := ⟨k - 1, by omega⟩
    have hn := Nds_len 0 b e 64 he
    have h1 := compact_RangeNodes.eq b e h he out (by omega) k (by omega)
    have h2 := impl_fromNodes.eq (out ++ (Nds 0 b e).map cnode) (by simp; omega) k (by simp; omega)
    rw [impl_RangeNodes.l0, if_neg (by omega), h1, Option.bind_some, h2, Option.bind_some, List.drop_of_length_le (by omega)]; simp
  | succ d ih =>
    intro i k out hi ho hk
    obtain ⟨k, rfl⟩ : ∃ m, k = m + 1 := ⟨k - 1, by omega⟩
    have hlt : i < l.length := by omega
    have hlen : out.length < 8796093022208 := by omega
    have hw : wrap64 ((i : Int) + 1) = ((i + 1 : Nat) : Int) := w64_add i 1 (by omega)
    have hi := ih (i + 1) k (out ++ [toC (rd_T36 l (i : Int))]) (by omega) (by simp; omega) (by omega)
    rw [impl_RangeNodes.l0, if_pos (by omega), if_pos (Int.natCast_nonneg i), if_pos (by omega)]
    show (if out.length < 8796093022208 then impl_RangeNodes.l0 k (b : Int) (e : Int) (out ++ [toC (rd_T36 l (i : Int))]) l (l.length : Int) (wrap64 ((i : Int) + 1)) else none) = _
    rw [if_pos hlen, hw, hi, drop_rd l i z36 hlt, List.map_cons, List.append_assoc out [_]]; rfl
theorem impl_RangeNodes.eq (b e : Nat) (h : b ≤ e) (he : e < 18446744073709551616) (l : List S36) (hl : l.length ≤ 2147483647) (K : Nat) (hK : 2 * l.length + 301 ≤ K) :
    impl_RangeNodes.f K (b : Int) (e : Int) l = some (l ++ (Nds 0 b e).map inode) := by
  have := toNodes_loop b e h he l hl l.length 0 K [] (by omega) rfl (by omega)
  unfold impl_RangeNodes.f
  rw [show (0 : Int) = ((0 : Nat) : Int) from rfl, this]
  simp only [List.nil_append, List.drop_zero, List.map_append, List.map_map]
  have e1 : (toI ∘ toC) = id := rfl
  have e2 : (toI ∘ cnode) = inode := rfl
  rw [e1, e2, List.map_id]
theorem same_loop (l : List S36) (hl : l.length < 8796093022208) (d : Nat) : ∀ (i k : Nat), i + d = l.length → d < k →
    spec_SameNodes.l0 k l l (l.length : Int) (i : Int) = some true := by
  induction d with
  | zero =>
    intro i k hi hk
    obtain ⟨k, rfl⟩ : ∃ m, k = m + 1 := ⟨k - 1, by omega⟩
    rw [spec_SameNodes.l0, if_neg (by omega)]
  | succ d ih =>
    intro i k hi hk
    obtain ⟨k, rfl⟩ : ∃ m, k = m + 1 := ⟨k - 1, by omega⟩
    have hw : wrap64 ((i : Int) + 1) = ((i + 1 : Nat) : Int) := w64_add i 1 (by omega)
    have hi := ih (i + 1) k (by omega) (by omega)
    rw [spec_SameNodes.l0, if_pos (by omega), if_pos (Int.natCast_nonneg i), if_pos (by omega), if_pos (by omega), if_neg (by simp), hw, hi]
theorem spec_SameNodes.same (l : List S36) (hl : l.length < 8796093022208) (K : Nat) (hK : l.length < K) : spec_SameNodes.f K l l = some true := by
  unfold spec_SameNodes.f
  rw [if_pos rfl, show (0 : Int) = ((0 : Nat) : Int) from rfl]
  exact same_loop l hl l.length 0 K (by omega) hK
end Go.Proofs.YthfgegaakfgjkaaDoor.PAll
