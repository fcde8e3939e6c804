-- Written by a program of this session (wip/tools)
import Derived.Test.YtielnphmcaecdaaDoorQCHPAllx14
import Derived.Test.YtielnphmcaecdaaDoorQCHPAllx13
import Derived.Test.YtielnphmcaecdaaDoorQCHPaths
import Derived.Test.YtielnphmcaecdaaDoorQCHRangeFns
import Derived.Test.YtielnphmcaecdaaDoorQCHPAllx4
import Derived.Test.YtielnphmcaecdaaDoorQCHAudit
namespace Go.Proofs.YtielnphmcaecdaaDoor.PAll
open Go.RowKit Go.Proofs.YtielnphmcaecdaaDoor.Num Go.Proofs.YtielnphmcaecdaaDoor.Mth Go.Proofs.YtielnphmcaecdaaDoorW.PrintWords Go.Proofs.YtielnphmcaecdaaDoorW.PrintLast
set_option linter.unusedVariables false
theorem nodeOf_loop (b e l : Nat) (he : e < 18446744073709551616) (h : e = b + 2 ^ l) (hl : l ≤ 63) (x : Int) (d : Nat) : ∀ (z k : Nat), z + d = l → d < k → spec_NodeOf.l0 k (b : Int) (e : Int) (z : Int) x = some ((l : Int), ((b / 2 ^ l : Nat) : Int)) := by
  have hw : IntKind.u64.wrap ((e : Int) - (b : Int)) = ((2 ^ l : Nat) : Int) := by
    have hbe : b ≤ e := by rw [h]; exact Nat.le_add_right _ _
    rw [u64sub hbe he, h, Nat.add_sub_cancel_left]
  have h2 : 2 ^ l < 18446744073709551616 := by
    refine Nat.lt_of_le_of_lt ?_ he
    rw [h]; exact Nat.le_add_left _ _
  have hb64 : b < 18446744073709551616 := by
    refine Nat.lt_of_le_of_lt ?_ he
    rw [h]; exact Nat.le_add_right _ _
  clear h
  induction d with
  | zero =>
    intro z k hz hk
    obtain ⟨k, rfl⟩ : ∃ m, k = m + 1 := ⟨k - 1, by omega⟩
    obtain rfl : z = l := by omega
    rw [spec_NodeOf.l0, if_pos (Int.natCast_nonneg _), hw, shr64' _ _ h2, Nat.div_self (Nat.two_pow_pos _), if_neg (by decide), shr64' _ _ hb64]
  | succ d ih =>
    intro z k hz hk
    obtain ⟨k, rfl⟩ : ∃ m, k = m + 1 := ⟨k - 1, by omega⟩
    have hd : 2 ^ l / 2 ^ z = 2 * 2 ^ d := by
      rw [show l = (d + 1) + z by omega, Nat.pow_add, Nat.mul_div_cancel _ (Nat.two_pow_pos _), Nat.pow_succ, Nat.mul_comm]
    have hp := Nat.two_pow_pos d
    rw [spec_NodeOf.l0, if_pos (Int.natCast_nonneg _), hw, shr64' _ _ h2, hd, if_pos (by omega), show IntKind.u64.wrap ((z : Int) + 1) = ((z + 1 : Nat) : Int) from u64add (b := 1) (by omega)]
    exact ih (z + 1) k (by omega) (by omega)
theorem nodeOf_eq (l c : Nat) (h : (c + 1) * 2 ^ l < 18446744073709551616) (k : Nat) (hk : 65 ≤ k) : spec_NodeOf.f k ((c * 2 ^ l : Nat) : Int) (((c + 1) * 2 ^ l : Nat) : Int) = some ((l : Int), (c : Int)) := by
  have hm : (c + 1) * 2 ^ l = c * 2 ^ l + 2 ^ l := by rw [Nat.add_mul, Nat.one_mul]
  have hl : l ≤ 63 := by
    apply Nat.le_of_not_lt; intro h1
    have := Nat.pow_le_pow_right (n := 2) (by decide) (show 64 ≤ l by omega)
    have : 2 ^ 64 = 18446744073709551616 := by decide
    omega
  have := nodeOf_loop (c * 2 ^ l) ((c + 1) * 2 ^ l) l h hm hl 0 l 0 k (by omega) (by omega)
  rw [Nat.mul_div_cancel _ (Nat.two_pow_pos _)] at this
  exact this
theorem rdP {L : List S53} {j : Nat} {q : S53} (h : L[j]? = some q) : rd_T53 L (j : Int) = q := by
  unfold rd_T53
  rw [Int.toNat_natCast, List.getD_eq_getElem?_getD, h]; rfl
section
variable {L : List S53} {j : Nat} (hL : L.length < 1099511627776)
include hL
theorem po_left {l c : Nat} (hj : L[j]? = some (prt (lvs (l, c)))) (hb : (c + 1) * 2 ^ l < 18446744073709551616) (pe : Int) (out : List S49) (a a' b e : Int) (k : Nat) (hk : 65 ≤ k) (ho : out.length < 8796093022208) :
    spec_proofOf.l0 (k + 1) L (L.length : Int) (j : Int) (((c + 1) * 2 ^ l : Nat) : Int) pe out a a' b e = spec_proofOf.l0 k L (L.length : Int) ((j + 1 : Nat) : Int) ((c * 2 ^ l : Nat) : Int) pe (out ++ [inode (l, c)]) a a' b e := by
  have hlt := (List.getElem?_eq_some_iff.1 hj).1
  rw [spec_proofOf.l0, if_pos (by omega), if_pos (Int.natCast_nonneg _), if_pos (by omega), rdP hj]
  show (if (((c + 1) * 2 ^ l : Nat) : Int) = (((c + 1) * 2 ^ l : Nat) : Int) then (spec_NodeOf.f k ((c * 2 ^ l : Nat) : Int) (((c + 1) * 2 ^ l : Nat) : Int)).bind _ else _) = _
  rw [if_pos rfl, nodeOf_eq l c hb k hk, Option.bind_some, if_pos ho, show wrap64 ((j : Int) + 1) = ((j + 1 : Nat) : Int) from w64_add j 1 (by omega)]
  rfl
theorem po_right {l c : Nat} (hj : L[j]? = some (prt (lvs (l, c)))) (hb : (c + 1) * 2 ^ l < 18446744073709551616) (hc : 1 ≤ c) (out : List S49) (a a' b e : Int) (k : Nat) (hk : 65 ≤ k) (ho : out.length < 8796093022208) :
    spec_proofOf.l0 (k + 1) L (L.length : Int) (j : Int) (((c - 1) * 2 ^ l : Nat) : Int) ((c * 2 ^ l : Nat) : Int) out a a' b e = spec_proofOf.l0 k L (L.length : Int) ((j + 1 : Nat) : Int) (((c - 1) * 2 ^ l : Nat) : Int) (((c + 1) * 2 ^ l : Nat) : Int) (out ++ [inode (l, c)]) a a' b e := by
  have hlt := (List.getElem?_eq_some_iff.1 hj).1
  have hm : (c + 1) * 2 ^ l = c * 2 ^ l + 2 ^ l := by rw [Nat.add_mul, Nat.one_mul]
  have hm2 : c * 2 ^ l = (c - 1) * 2 ^ l + 2 ^ l := by
    have := Nat.succ_mul (c - 1) (2 ^ l)
    rw [show (c - 1).succ = c by omega] at this; exact this
  have hp := Nat.two_pow_pos l
  rw [spec_proofOf.l0, if_pos (by omega), if_pos (Int.natCast_nonneg _), if_pos (by omega), rdP hj]
  show (if (((c + 1) * 2 ^ l : Nat) : Int) = (((c - 1) * 2 ^ l : Nat) : Int) then _ else (if IntKind.u64.wrap ((((c + 1) * 2 ^ l : Nat) : Int) - ((c * 2 ^ l : Nat) : Int)) = IntKind.u64.wrap (((c * 2 ^ l : Nat) : Int) - (((c - 1) * 2 ^ l : Nat) : Int)) then (spec_NodeOf.f k ((c * 2 ^ l : Nat) : Int) (((c + 1) * 2 ^ l : Nat) : Int)).bind _ else _)) = _
  rw [if_neg (by omega), if_pos (by congr 1; omega), nodeOf_eq l c hb k hk, Option.bind_some, if_pos ho, show wrap64 ((j : Int) + 1) = ((j + 1 : Nat) : Int) from w64_add j 1 (by omega)]
  rfl
theorem po_rev (LN : List S49) (hLN : LN.length ≤ 100000) (pb pe s0 s1 a a' b e : Int) (hj : j < L.length) : ∀ (t k : Nat) (out : List S49), t ≤ LN.length → out.length + t < 8796093022208 →
    spec_proofOf.l1 (k + t + 1) LN ((t : Int) - 1) L (L.length : Int) (j : Int) pb pe out a a' b e s0 s1 = spec_proofOf.l0 k L (L.length : Int) ((j + 1 : Nat) : Int) pb s1 (out ++ (LN.take t).reverse) a a' b e := by
  intro t
  induction t with
  | zero =>
    intro k out ht ho
    rw [spec_proofOf.l1, if_neg (by omega), show wrap64 ((j : Int) + 1) = ((j + 1 : Nat) : Int) from w64_add j 1 (by omega), List.take_zero, List.reverse_nil, List.append_nil]
  | succ t ih =>
    intro k out ht ho
    have hx : LN[t]? = some (rd_T49 LN (t : Int)) := by
      unfold rd_T49
      rw [Int.toNat_natCast, List.getD_eq_getElem?_getD, List.getElem?_eq_getElem (by omega)]; rfl
    rw [show (((t + 1 : Nat) : Int) - 1) = (t : Int) by omega, spec_proofOf.l1, if_pos (by omega), if_pos (by omega), if_pos (by omega), if_pos (by omega), show wrap64 ((t : Int) - 1) = (t : Int) - 1 by unfold wrap64; omega]
    rw [show k + (t + 1) = k + t + 1 by omega, ih k _ (by omega) (by rw [List.length_append, List.length_singleton]; omega), List.take_add_one, hx, List.reverse_append, List.append_assoc]
    rfl
theorem po_short {l c n : Nat} (hj : L[j]? = some (prt (c * 2 ^ l, n))) (h1 : c * 2 ^ l < n) (h2 : n < (c + 1) * 2 ^ l) (hn : n < 18446744073709551616) (hc : 1 ≤ c) (out : List S49) (a a' b e : Int) (k : Nat) (hk : 9000 ≤ k + (Nds 0 (c * 2 ^ l) n).length + 1) (ho : out.length < 100000) :
    spec_proofOf.l0 (k + (Nds 0 (c * 2 ^ l) n).length + 1 + 1) L (L.length : Int) (j : Int) (((c - 1) * 2 ^ l : Nat) : Int) ((c * 2 ^ l : Nat) : Int) out a a' b e = spec_proofOf.l0 k L (L.length : Int) ((j + 1 : Nat) : Int) (((c - 1) * 2 ^ l : Nat) : Int) (n : Int) (out ++ ((Nds 0 (c * 2 ^ l) n).map inode).reverse) a a' (out.length : Int) ((out.length + (Nds 0 (c * 2 ^ l) n).length : Nat) : Int) := by
  have hlt := (List.getElem?_eq_some_iff.1 hj).1
  have hm : (c + 1) * 2 ^ l = c * 2 ^ l + 2 ^ l := by rw [Nat.add_mul, Nat.one_mul]
  have hm2 : c * 2 ^ l = (c - 1) * 2 ^ l + 2 ^ l := by
    have := Nat.succ_mul (c - 1) (2 ^ l)
    rw [show (c - 1).succ = c by omega] at this; exact this
  have lenR : (Nds 0 (c * 2 ^ l) n).length ≤ 128 := Nds_len 0 _ _ 64 hn
  rw [spec_proofOf.l0, if_pos (by omega), if_pos (Int.natCast_nonneg _), if_pos (by omega), rdP hj]
  show (if (n : Int) = (((c - 1) * 2 ^ l : Nat) : Int) then _ else (if IntKind.u64.wrap ((n : Int) - ((c * 2 ^ l : Nat) : Int)) = IntKind.u64.wrap (((c * 2 ^ l : Nat) : Int) - (((c - 1) * 2 ^ l : Nat) : Int)) then _ else (spec_Nodes.f _ ((c * 2 ^ l : Nat) : Int) (n : Int)).bind _)) = _
  rw [if_neg (by omega), if_neg (by rw [u64sub (by omega) hn, u64sub (by omega) (by omega)]; omega), spec_Nodes.eq _ _ (by omega) hn _ hk, Option.bind_some]
  have hlen : ((Nds 0 (c * 2 ^ l) n).map inode).length = (Nds 0 (c * 2 ^ l) n).length := List.length_map _
  have hR := po_rev hL ((Nds 0 (c * 2 ^ l) n).map inode) (by omega) (((c - 1) * 2 ^ l : Nat) : Int) ((c * 2 ^ l : Nat) : Int) ((c * 2 ^ l : Nat) : Int) (n : Int) a a' (out.length : Int) ((out.length + (Nds 0 (c * 2 ^ l) n).length : Nat) : Int) hlt (Nds 0 (c * 2 ^ l) n).length k out (by omega) (by omega)
  rw [List.take_of_length_le (by omega)] at hR
  rw [hlen, show wrap64 (((Nds 0 (c * 2 ^ l) n).length : Int) - 1) = ((Nds 0 (c * 2 ^ l) n).length : Int) - 1 by unfold wrap64; omega, w64_add out.length _ (by omega)]
  exact hR
theorem po_lefts (pe a a' bb ee : Int) (d : Nat) : ∀ (b e j K : Nat) (out : List S49), (Nds 0 b e).length = d → b ≤ e → e < 18446744073709551616 → 65 ≤ K → out.length + d < 100000 →
    (∀ s, s < d → L[j + s]? = ((Nds 0 b e).reverse.map fun p => prt (lvs p))[s]?) →
    spec_proofOf.l0 (K + d) L (L.length : Int) (j : Int) (e : Int) pe out a a' bb ee = spec_proofOf.l0 K L (L.length : Int) ((j + d : Nat) : Int) (b : Int) pe (out ++ (Nds 0 b e).reverse.map inode) a a' bb ee := by
  induction d with
  | zero =>
    intro b e j K out hd hbe he hK ho hs
    have hb : b = e := by
      apply Nat.le_antisymm hbe
      apply Nat.le_of_not_lt; intro h
      have := Nds_nonempty (l := 0) h; omega
    subst hb
    rw [Nds_empty (Nat.le_refl _)]
    simp
  | succ d ih =>
    intro b e j K out hd hbe he hK ho hs
    have hlt : b < e := by
      apply Nat.lt_of_not_le; intro h
      rw [Nds_empty h] at hd; simp at hd
    obtain ⟨s1, s2, _⟩ := lev_spec b e hlt
    obtain ⟨v, hv⟩ : ∃ v, lev b e = v := ⟨_, rfl⟩
    rw [hv] at s1 s2
    have hst := Nds_step 0 b e hlt
    rw [hv, Nat.zero_add] at hst
    have hc : b / 2 ^ v * 2 ^ v = b := Nat.div_mul_cancel (Nat.dvd_of_mod_eq_zero s1)
    have hc1 : (b / 2 ^ v + 1) * 2 ^ v = b + 2 ^ v := by rw [Nat.add_mul, Nat.one_mul, hc]
    have hlen : (Nds 0 (b + 2 ^ v) e).length = d := by rw [hst, List.length_cons] at hd; omega
    have hi := ih (b + 2 ^ v) e j (K + 1) out hlen s2 he (by omega) (by omega) (fun s hsd => by
      rw [hs s (by omega), hst, List.reverse_cons, List.map_append, List.getElem?_append_left (by rw [List.length_map, List.length_reverse]; omega)])
    have hj := hs d (by omega)
    rw [hst, List.reverse_cons, List.map_append, List.getElem?_append_right (by rw [List.length_map, List.length_reverse]; omega), List.length_map, List.length_reverse, hlen, Nat.sub_self] at hj
    have hj2 : L[j + d]? = some (prt (lvs (v, b / 2 ^ v))) := hj
    have hL2 := po_left hL hj2 (by rw [hc1]; omega) pe (out ++ (Nds 0 (b + 2 ^ v) e).reverse.map inode) a a' bb ee K hK (by rw [List.length_append, List.length_map, List.length_reverse, hlen]; omega)
    rw [hc1, hc] at hL2
    rw [show K + (d + 1) = K + 1 + d by omega, hi, hL2, hst, List.reverse_cons, List.map_append, List.append_assoc]
    rfl
end
end Go.Proofs.YtielnphmcaecdaaDoor.PAll
