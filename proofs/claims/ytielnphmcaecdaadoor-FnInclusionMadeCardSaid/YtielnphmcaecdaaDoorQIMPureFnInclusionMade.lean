-- Written by a program of this session (wip/tools)
import Derived.Test.YtielnphmcaecdaaDoorQIMPAllx22
import Derived.Test.YtielnphmcaecdaaDoorQIMNodeFns
namespace Go.Proofs.YtielnphmcaecdaaDoor.Pure
open Go.RowKit Go.Proofs.YtielnphmcaecdaaDoor.Num Go.Proofs.YtielnphmcaecdaaDoor.Mth Go.Proofs.YtielnphmcaecdaaDoor.Hsh Go.Proofs.YtielnphmcaecdaaDoor.PAll Go.Proofs.YtielnphmcaecdaaDoorW.PrintWords Go.Proofs.YtielnphmcaecdaaDoorW.PrintLast
set_option linter.unusedVariables false
set_option linter.unusedSimpArgs false
theorem leaves_eq (l c : Nat) (hl : l ≤ 63) (h : (c + 1) * 2 ^ l < 18446744073709551616) : spec_Leaves.f (l : Int) (c : Int) = some (((c * 2 ^ l : Nat) : Int), (((c + 1) * 2 ^ l : Nat) : Int)) := by
  have hp := Nat.two_pow_pos l
  have h1 : c + 1 ≤ (c + 1) * 2 ^ l := Nat.le_mul_of_pos_right _ hp
  have h2 : c * 2 ^ l ≤ (c + 1) * 2 ^ l := Nat.mul_le_mul_right _ (by omega)
  unfold spec_Leaves.f
  rw [if_pos (by omega), shl64 _ _ (by omega), show IntKind.u64.wrap ((c : Int) + 1) = ((c + 1 : Nat) : Int) from u64add (b := 1) (by omega), shl64 _ _ (by omega), Nat.mod_eq_of_lt (by omega), Nat.mod_eq_of_lt h]
theorem lev_of_in {l c n : Nat} (hn : n ≤ 300) (h : (c + 1) * 2 ^ l ≤ n) : l ≤ 63 := by
  apply Nat.le_of_not_lt; intro h1
  have h2 := Nat.pow_le_pow_right (n := 2) (by decide) (show 64 ≤ l by omega)
  have h3 : 2 ^ l ≤ (c + 1) * 2 ^ l := Nat.le_mul_of_pos_left _ (by omega)
  have : 2 ^ 64 = 18446744073709551616 := by decide
  omega
theorem node_hash (a0 a1 a2 a3 a4 a5 : Int) (L : List (List Int)) (hn : L.length ≤ 300) (hm : ∀ x ∈ L, x.length ≤ 5000) (p : Nat × Nat) (hp : (p.2 + 1) * 2 ^ p.1 ≤ L.length) (K : Nat) (hK : 20000000 ≤ K) :
    spec_NodeHash.f K a0 a1 a2 a3 a4 a5 L (p.1 : Int) (p.2 : Int) = some (nodeH (hash a0 a2 a5) (empt a0 a2 a3) L p) := by
  have hl := lev_of_in hn hp
  have h2 : p.2 * 2 ^ p.1 ≤ (p.2 + 1) * 2 ^ p.1 := Nat.mul_le_mul_right _ (by omega)
  unfold spec_NodeHash.f
  rw [leaves_eq p.1 p.2 hl (by omega), Option.bind_some, spec_RootOf.eq a0 a1 a2 a3 a4 a5 L hn hm _ _ h2 hp K hK]
  rfl
theorem nodeH_len (a0 a2 a3 a5 : Int) (L : List (List Int)) (hn : L.length ≤ 300) (hm : ∀ x ∈ L, x.length ≤ 5000) (p : Nat × Nat) (hp : (p.2 + 1) * 2 ^ p.1 ≤ L.length) : (nodeH (hash a0 a2 a5) (empt a0 a2 a3) L p).length ≤ 1502700 := by
  have h1 := seg_length (b := p.2 * 2 ^ p.1) hp
  have hp2 := Nat.two_pow_pos p.1
  have h0 : p.2 * 2 ^ p.1 < (p.2 + 1) * 2 ^ p.1 := Nat.mul_lt_mul_of_pos_right (by omega) hp2
  have h2 := mth_length (hash_grows a0 a2 a5) (empt a0 a2 a3) 5000 _ (seg L (p.2 * 2 ^ p.1) ((p.2 + 1) * 2 ^ p.1)) rfl (by rw [h1]; omega) (seg_bound hm)
  rw [h1] at h2
  have h3 : (p.2 + 1) * 2 ^ p.1 - p.2 * 2 ^ p.1 ≤ 300 := by omega
  have h4 := Nat.mul_le_mul_left (5000 + 9) h3
  unfold nodeH
  omega
theorem made_loop (a0 a1 a2 a3 a4 a5 : Int) (L : List (List Int)) (hn : L.length ≤ 300) (hm : ∀ x ∈ L, x.length ≤ 5000) (i : Int) (P : List (Nat × Nat)) (hP : ∀ p ∈ P, (p.2 + 1) * 2 ^ p.1 ≤ L.length) (hPl : P.length ≤ 1000) (K0 : Nat) (hK0 : 20000000 ≤ K0) (R : Option Bool)
    (hR : ((impl_InclusionHashes.f K0 a0 a1 a2 a3 a4 a5 i (L.length : Int) (P.map (nodeH (hash a0 a2 a5) (empt a0 a2 a3) L))).bind fun bt692 => (if bt692.2 = true then ((spec_Path.f K0 a0 a1 a2 a3 a4 a5 L i).bind fun t696 => ((spec_Same.f K0 bt692.1 t696).bind fun t699 => (some t699))) else (none))) = R) (d : Nat) : ∀ (j : Nat), j + d = P.length →
    laws_FnInclusionMade.l0 (K0 + d + 1) L i (L.length : Int) true ((P.take j).map (nodeH (hash a0 a2 a5) (empt a0 a2 a3) L)) (P.map inode) ((P.map inode).length : Int) (j : Int) a0 a1 a2 a3 a4 a5 = R := by
  induction d with
  | zero =>
    intro j hj
    rw [laws_FnInclusionMade.l0, if_neg (by rw [List.length_map]; omega), List.take_of_length_le (by omega), ← hR]
    rfl
  | succ d ih =>
    intro j hj
    obtain ⟨p, hp⟩ : ∃ p, P[j]? = some p := ⟨_, List.getElem?_eq_getElem (by omega)⟩
    have h1 := hP p (List.mem_of_getElem? hp)
    have hpj : rd_T49 (P.map inode) (j : Int) = inode p := by
      unfold rd_T49
      rw [Int.toNat_natCast, List.getD_eq_getElem?_getD, List.getElem?_map, hp]; rfl
    have hl := lev_of_in hn h1
    have h2 : p.2 * 2 ^ p.1 < (p.2 + 1) * 2 ^ p.1 := Nat.mul_lt_mul_of_pos_right (by omega) (Nat.two_pow_pos _)
    have hlv := leaves_eq p.1 p.2 hl (by omega)
    rw [laws_FnInclusionMade.l0, if_pos (by rw [List.length_map]; omega), if_pos (by omega), if_pos (by rw [List.length_map]; omega), hpj]
    show (if (p.1 : Int) ≥ 64 then none else (spec_Leaves.f (p.1 : Int) (p.2 : Int)).bind _) = _
    rw [if_neg (by omega), hlv, Option.bind_some]
    show ((spec_Leaves.f (p.1 : Int) (p.2 : Int)).bind _) = _
    rw [hlv, Option.bind_some, if_neg (by dsimp only; omega)]
    show ((spec_Leaves.f (p.1 : Int) (p.2 : Int)).bind _) = _
    rw [hlv, Option.bind_some, if_neg (by dsimp only; omega)]
    show ((spec_NodeHash.f _ a0 a1 a2 a3 a4 a5 L (p.1 : Int) (p.2 : Int)).bind _) = _
    rw [node_hash a0 a1 a2 a3 a4 a5 L hn hm p h1 _ (by omega), Option.bind_some, if_pos (by rw [List.length_map, List.length_take]; omega), next64 (by omega), show K0 + (d + 1) = K0 + d + 1 by omega]
    have := ih (j + 1) (by omega)
    rw [List.take_add_one, hp] at this
    rw [← this, List.map_append]
    rfl
theorem FnInclusionMade (x0 : S24) (l1 : List (List (Int))) (a2 : Int) (w0 : ((Lit.int .i64 x0.f0).wf = true) ∧ ((Lit.int .i64 x0.f1).wf = true) ∧ ((Lit.int .i64 x0.f2).wf = true) ∧ ((Lit.int .u64 x0.f3).wf = true) ∧ ((Lit.int .u64 x0.f4).wf = true) ∧ ((Lit.int .u64 x0.f5).wf = true)) (w1 : l1.length ≤ maxLen ∧ ∀ l1' ∈ l1, l1'.length ≤ maxLen ∧ ∀ l1'' ∈ l1', (Lit.int .u8 l1'').wf = true) (w2 : (Lit.int .u64 a2).wf = true) : ∃ k, laws_FnInclusionMade.f k x0.f0 x0.f1 x0.f2 x0.f3 x0.f4 x0.f5 l1 a2 = some true := by
  obtain ⟨a0, b1, b2, a3, a4, a5⟩ := x0
  show ∃ k, laws_FnInclusionMade.f k a0 b1 b2 a3 a4 a5 l1 a2 = some true
  obtain ⟨i, rfl, hi64⟩ := wf_u64 w2
  obtain ⟨z, kz, hz, hfit⟩ := fits l1
  cases z with
  | false => exact ⟨kz, by unfold laws_FnInclusionMade.f; rw [hz, Option.bind_some, if_neg (by decide)]⟩
  | true =>
  obtain ⟨f1, f2⟩ := hfit rfl
  obtain ⟨z, hz2, hsm⟩ := small l1 f1
  obtain ⟨K, hK⟩ : ∃ K, K = kz + l1.length + 4000000000 := ⟨_, rfl⟩
  refine ⟨K + 1, ?_⟩
  unfold laws_FnInclusionMade.f
  rw [lift (fun k => laws_zzFits2.mono l1 k) hz (show kz ≤ K + 1 by omega), Option.bind_some, if_pos rfl, lift (fun k => laws_logSmall.mono l1 k) hz2 (show l1.length + 1 ≤ K + 1 by omega), Option.bind_some]
  cases z with
  | false => rw [if_neg (by decide), laws_FnInclusionMade.j0, if_pos rfl]
  | true =>
  obtain ⟨g1, g2⟩ := hsm rfl
  have hm := mem_bound g2
  have hw : IntKind.u64.wrap (l1.length : Int) = (l1.length : Int) := u64in (by omega)
  rw [if_pos rfl, hw, laws_FnInclusionMade.j0]
  by_cases h : l1.length ≤ i
  · rw [if_pos (decide_eq_true (by omega))]
  · have hi : i < l1.length := by omega
    have hi0 : i < l1.length / 2 ^ 0 := by rw [Nat.pow_zero, Nat.div_one]; exact hi
    have hf : impl_Inclusion.f K (i : Int) (l1.length : Int) = some ((incIds i l1.length).map inode, ((ndEph i 0 l1.length).1 : Int), ((ndEph i 0 l1.length).2 : Int), (incBegin i l1.length : Int), (incEnd i l1.length : Int), true) := by
      unfold impl_Inclusion.f
      rw [if_neg (by omega), if_pos ⟨by omega, by omega⟩, Int.toNat_natCast, Int.toNat_natCast]
    rw [if_neg (by rw [decide_eq_false (by omega)]; decide), hf, Option.bind_some]
    dsimp only
    have hlen := incIds_len i l1.length hi (by omega)
    have hin : ∀ p ∈ incIds i l1.length, (p.2 + 1) * 2 ^ p.1 ≤ l1.length := ids_in i 0 l1.length hi0
    have hmap : ∀ x ∈ (incIds i l1.length).map (nodeH (hash a0 b2 a5) (empt a0 b2 a3) l1), x.length ≤ 1502700 := by
      intro x hx
      obtain ⟨p, hp, rfl⟩ := List.mem_map.1 hx
      exact nodeH_len a0 b2 a3 a5 l1 g1 hm p (hin p hp)
    have hlm : ((incIds i l1.length).map (nodeH (hash a0 b2 a5) (empt a0 b2 a3) l1)).length = (incIds i l1.length).length := List.length_map _
    have hml := made_loop a0 b1 b2 a3 a4 a5 l1 g1 hm (i : Int) (incIds i l1.length) hin (by omega) (K - (incIds i l1.length).length - 1) (by omega) (some true) (by
      have e : impl_InclusionHashes.f (K - (incIds i l1.length).length - 1) a0 b1 b2 a3 a4 a5 (i : Int) (l1.length : Int) ((incIds i l1.length).map (nodeH (hash a0 b2 a5) (empt a0 b2 a3) l1)) = some (folded (hash a0 b2 a5) (incBegin i l1.length) (incEnd i l1.length) ((incIds i l1.length).map (nodeH (hash a0 b2 a5) (empt a0 b2 a3) l1)), true) := by
        unfold impl_InclusionHashes.f
        rw [if_neg (by omega), if_pos ⟨by omega, by omega⟩, Int.toNat_natCast, Int.toNat_natCast]
        have hb : (1502700 + 9) * (((incIds i l1.length).map (nodeH (hash a0 b2 a5) (empt a0 b2 a3) l1)).length + 1) ≤ 1000000000 := by rw [hlm]; omega
        exact hashF_yes a0 b1 b2 a3 a4 a5 _ _ _ 1502700 _ hlm (by omega) hb hmap (by omega)
      rw [e, Option.bind_some]
      dsimp only
      rw [if_pos rfl, spec_Path.eq a0 b1 b2 a3 a4 a5 l1 g1 hm i hi _ (by omega), Option.bind_some]
      have e2 : folded (hash a0 b2 a5) (incBegin i l1.length) (incEnd i l1.length) ((incIds i l1.length).map (nodeH (hash a0 b2 a5) (empt a0 b2 a3) l1)) = (path i 0 l1.length).map fun p => mth (hash a0 b2 a5) (empt a0 b2 a3) (seg l1 p.1 p.2) := by
        rw [path_nParts i _ hi]
        refine (folded_parts (hash a0 b2 a5) (empt a0 b2 a3) (nodeH (hash a0 b2 a5) (empt a0 b2 a3) l1) i 0 l1.length hi0).trans ?_
        exact List.map_congr_left (fun p hp => (part_mth (hash a0 b2 a5) (empt a0 b2 a3) l1 i 0 l1.length hi0 (Nat.le_refl _) p hp).1)
      rw [e2]
      unfold spec_Same.f
      rw [sameL_self]; rfl) (incIds i l1.length).length 0 (by omega)
    rw [show K - (incIds i l1.length).length - 1 + (incIds i l1.length).length + 1 = K by omega] at hml
    exact hml
end Go.Proofs.YtielnphmcaecdaaDoor.Pure
