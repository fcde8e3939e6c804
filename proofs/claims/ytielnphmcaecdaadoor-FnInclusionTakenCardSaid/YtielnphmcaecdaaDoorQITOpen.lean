-- Written by a program of this session (wip/tools)
import Derived.Test.YtielnphmcaecdaaDoorQITNodeFns
import Derived.Test.YtielnphmcaecdaaDoorQITExtVerB
import Derived.Test.YtielnphmcaecdaaDoorQITPAllx25
import Derived.Test.YtielnphmcaecdaaDoorQITV0
import Derived.Deep.Slices
import Derived.Lib.SmallJoins
namespace Go.Proofs.YtielnphmcaecdaaDoor.Hsh
open Go.RowKit Go.Proofs.YtielnphmcaecdaaDoor.Num Go.Proofs.YtielnphmcaecdaaDoor.Mth Go.Proofs.YtielnphmcaecdaaDoor.PAll Go.Proofs.YtielnphmcaecdaaDoorW.PrintWords Go.Proofs.YtielnphmcaecdaaDoorW.PrintLast
set_option linter.unusedVariables false
theorem bit_and (n i : Nat) (hn : n < 18446744073709551616) : Go.bits .and .u64 (shr .u64 (n : Int) (i : Int)) 1 = ((n / 2 ^ i % 2 : Nat) : Int) := by
  rw [shr64' _ _ hn]
  have h1 : n / 2 ^ i < 18446744073709551616 := Nat.lt_of_le_of_lt (Nat.div_le_self _ _) hn
  have := and64 (n / 2 ^ i) 1 h1 (by omega)
  rw [Nat.and_one_is_mod] at this
  exact this
def fst (s _ : List Int) : List Int := s
theorem up_fn (F : List Int → List Int → Option (List Int)) (H : List Int → List Int → List Int) (hH : ∀ l r, (H l r).length ≤ 9 + l.length + r.length) (hF : ∀ l r, l.length ≤ 1000000000 → r.length ≤ 1000000000 → F l r = some (H l r)) (m : Nat) (hm : m ≤ 1000000000) (n : Nat) (hn : n < 18446744073709551616) :
    ∀ (l : List (List Int)) (i : Nat) (s : List Int), (∀ x ∈ l, x.length ≤ m) → s.length + (m + 9) * l.length ≤ 1000000000 → up_ F (n : Int) l i s = some (chn H H n l i s) ∧ (chn H H n l i s).length ≤ s.length + (m + 9) * l.length
  | [], i, s, _, _ => ⟨rfl, by show s.length ≤ _; omega⟩
  | x :: l, i, s, h, hs => by
    have h2 := hH x s
    have h4 := hH s x
    have h3 := h x List.mem_cons_self
    rw [List.length_cons, Nat.mul_succ] at hs
    have := Nat.mod_two_eq_zero_or_one (n / 2 ^ i)
    rw [up_, bit_and n i hn, chn, List.length_cons, Nat.mul_succ]
    by_cases e : n / 2 ^ i % 2 = 0
    · obtain ⟨k1, k2⟩ := up_fn F H hH hF m hm n hn l (i + 1) (H s x) (fun y hy => h y (List.mem_cons_of_mem _ hy)) (by omega)
      rw [if_pos (by omega), if_pos e, hF s x (by omega) (by omega), Option.bind_some]
      exact ⟨k1, by omega⟩
    · obtain ⟨k1, k2⟩ := up_fn F H hH hF m hm n hn l (i + 1) (H x s) (fun y hy => h y (List.mem_cons_of_mem _ hy)) (by omega)
      rw [if_neg (by omega), if_neg e, hF x s (by omega) (by omega), Option.bind_some]
      exact ⟨k1, by omega⟩
theorem two_roots (H : List Int → List Int → List Int) (E : List Int) (L : List (List Int)) {l c s n : Nat} (hs : s = (c + 1) * 2 ^ l) (hsn : s ≤ n) (hn : n ≤ L.length) :
    l ≤ (path (s - 1) 0 n).length ∧
    fd H H ((dirs (s - 1) 0 n).drop l) (((path (s - 1) 0 n).map fun p => mth H E (seg L p.1 p.2)).drop l) (mth H E (seg L (c * 2 ^ l) ((c + 1) * 2 ^ l))) = mth H E (seg L 0 n) ∧
    fd fst H ((dirs (s - 1) 0 n).drop l) (((path (s - 1) 0 n).map fun p => mth H E (seg L p.1 p.2)).drop l) (mth H E (seg L (c * 2 ^ l) ((c + 1) * 2 ^ l))) = mth H E (seg L 0 s) := by
  have hp := Nat.two_pow_pos l
  have hs2 : (c + 1) * 2 ^ l = c * 2 ^ l + 2 ^ l := by rw [Nat.add_mul, Nat.one_mul]
  have A := fold_node (R := H) (H := H) (val := fun p => mth H E (seg L p.1 p.2)) (T := fun b e => mth H E (seg L b e)) (l := l) (c := c) (i := s - 1) (N := n) (by omega) (by omega)
    (fun b e h he _ _ => mth_seg H E (by omega) h) (fun b e h he _ _ => mth_seg H E (by omega) h) n 0 n rfl (Nat.le_refl _) (Nat.zero_le _) (by omega) (Nat.zero_mod _)
  have B := fold_node (R := fst) (H := H) (val := fun p => mth H E (seg L p.1 p.2)) (T := fun b e => mth H E (seg L b s)) (l := l) (c := c) (i := s - 1) (N := n) (by omega) (by omega)
    (fun b e h he _ _ => rfl) (fun b e h he h1 h2 => by
      obtain ⟨κ, hκ⟩ : ∃ κ, psplit (e - b) = 2 ^ κ := ⟨_, rfl⟩
      have g2 := le_psplit (n := e - b) h
      have hk : psplit (s - b) = psplit (e - b) := by
        rw [hκ] at g2 h1 ⊢
        exact psplit_unique (by omega) (by omega)
      have g3 := psplit_pos (e - b)
      show mth H E (seg L b s) = H (mth H E (seg L b (b + psplit (e - b)))) (mth H E (seg L (b + psplit (e - b)) s))
      rw [← hk]
      exact mth_seg H E (by omega) (by omega)) n 0 n rfl (Nat.le_refl _) (Nat.zero_le _) (by omega) (Nat.zero_mod _)
  refine ⟨A.1, A.2, ?_⟩
  rw [← hs]
  exact B.2
end Go.Proofs.YtielnphmcaecdaaDoor.Hsh
namespace Go.Proofs.YtielnphmcaecdaaDoor.Hsh
open Go.RowKit Go.Proofs.YtielnphmcaecdaaDoor.Num Go.Proofs.YtielnphmcaecdaaDoor.Mth Go.Proofs.YtielnphmcaecdaaDoor.PAll Go.Proofs.YtielnphmcaecdaaDoorW.PrintWords Go.Proofs.YtielnphmcaecdaaDoorW.PrintLast
set_option linter.unusedVariables false
set_option linter.unusedSimpArgs false
theorem nodeH_len' (a0 a2 a3 a5 : Int) (L : List (List Int)) (hn : L.length ≤ 300) (hm : ∀ x ∈ L, x.length ≤ 5000) (p : Nat × Nat) (hp : (p.2 + 1) * 2 ^ p.1 ≤ L.length) : (nodeH (hash a0 a2 a5) (empt a0 a2 a3) L p).length ≤ 1502700 := by
  have h1 := seg_length (b := p.2 * 2 ^ p.1) hp
  have hp2 := Nat.two_pow_pos p.1
  have h0 : p.2 * 2 ^ p.1 < (p.2 + 1) * 2 ^ p.1 := Nat.mul_lt_mul_of_pos_right (by omega) hp2
  have h2 := mth_length (hash_grows a0 a2 a5) (empt a0 a2 a3) 5000 _ (seg L (p.2 * 2 ^ p.1) ((p.2 + 1) * 2 ^ p.1)) rfl (by rw [h1]; omega) (seg_bound hm)
  rw [h1] at h2
  have h3 : (p.2 + 1) * 2 ^ p.1 - p.2 * 2 ^ p.1 ≤ 300 := by omega
  have h4 := Nat.mul_le_mul_left (5000 + 9) h3
  unfold nodeH
  omega
end Go.Proofs.YtielnphmcaecdaaDoor.Hsh
namespace Go.Proofs.YtielnphmcaecdaaDoor.Hsh
open Go.RowKit Go.Proofs.YtielnphmcaecdaaDoor.Num Go.Proofs.YtielnphmcaecdaaDoor.Mth Go.Proofs.YtielnphmcaecdaaDoor.PAll Go.Proofs.YtielnphmcaecdaaDoorW.PrintWords Go.Proofs.YtielnphmcaecdaaDoorW.PrintLast
set_option linter.unusedVariables false
theorem incl_root (H : List Int → List Int → List Int) (E : List Int) (L : List (List Int)) {i n : Nat} (hi : i < n) (hn : n ≤ L.length) :
    bord H (((path i 0 n).map fun p => mth H E (seg L p.1 p.2)).drop (fork i (n - 1))) (chn H H i (((path i 0 n).map fun p => mth H E (seg L p.1 p.2)).take (fork i (n - 1))) 0 (L.getD i [])) = mth H E (L.take n) := by
  have h := (two_roots H E L (l := 0) (c := i) (s := i + 1) (n := n) (by rw [Nat.pow_zero, Nat.mul_one]) (by omega) hn).2.1
  have hl : ((path i 0 n).map fun p => mth H E (seg L p.1 p.2)).length = fork i (n - 1) - 0 + ones (i / 2 ^ fork i (n - 1)) := by rw [List.length_map, path_length n i hi]; rfl
  have h2 := prog_fd H H hi (Nat.zero_le (fork i (n - 1))) ((path i 0 n).map fun p => mth H E (seg L p.1 p.2)) hl (L.getD i [])
  rw [Nat.pow_zero, Nat.div_one, Nat.sub_zero] at h2
  rw [h2]
  rw [Nat.pow_zero, Nat.mul_one, Nat.mul_one, seg_one (by omega), mth_one, Nat.add_sub_cancel, seg_zero, List.drop_zero, List.drop_zero] at h
  rw [List.drop_zero, ← h, List.getD_eq_getElem?_getD, List.getElem?_eq_getElem (by omega), Option.getD_some]
end Go.Proofs.YtielnphmcaecdaaDoor.Hsh
namespace Go.Proofs.YtielnphmcaecdaaDoor.Pure
open Go.RowKit Go.Proofs.YtielnphmcaecdaaDoor.Num Go.Proofs.YtielnphmcaecdaaDoor.Mth Go.Proofs.YtielnphmcaecdaaDoor.Hsh Go.Proofs.YtielnphmcaecdaaDoor.PAll Go.Proofs.YtielnphmcaecdaaDoorW.PrintWords Go.Proofs.YtielnphmcaecdaaDoorW.PrintLast
set_option linter.unusedVariables false
set_option linter.unusedSimpArgs false
theorem inc_in (i n : Nat) (hi : i < n) : ∀ p ∈ incIds i n, (p.2 + 1) * 2 ^ p.1 ≤ n := ids_in i 0 n (by rw [Nat.pow_zero, Nat.div_one]; exact hi)
theorem idsIn_inc {i n m : Nat} (hi : i < n) (h : n ≤ m) : idsIn m ((incIds i n).map cnode) = true := by
  refine List.all_eq_true.mpr (fun id hid => ?_)
  obtain ⟨p, hp, rfl⟩ := List.mem_map.mp hid
  have := inc_in i n hi p hp
  simp only [Bool.and_eq_true, decide_eq_true_eq]
  refine ⟨Int.natCast_nonneg _, Int.natCast_nonneg _, ?_⟩
  show (((p.2 : Int)).toNat + 1) * 2 ^ ((p.1 : Int)).toNat ≤ m
  rw [Int.toNat_natCast, Int.toNat_natCast]; omega
theorem treeInc_eq (a0 a1 a2 a3 a4 a5 : Int) (L : List (List Int)) (hn : L.length ≤ 300) (hm : ∀ x ∈ L, x.length ≤ 5000) (i n : Nat) (hi : i < n) (hnL : n ≤ L.length) (K : Nat) (hK : 3000000000 ≤ K) :
    impl_TreeInclusion.f K a0 a1 a2 a3 a4 a5 L (i : Int) (n : Int) = some ((path i 0 n).map fun p => mth (hash a0 a2 a5) (empt a0 a2 a3) (seg L p.1 p.2), true) := by
  have hi0 : i < n / 2 ^ 0 := by rw [Nat.pow_zero, Nat.div_one]; exact hi
  have hlen := incIds_len i n hi (by omega)
  unfold impl_TreeInclusion.f
  rw [if_pos ⟨by omega, by omega, by omega, by omega⟩, texts_mem L (by omega) (fun x hx => Nat.le_trans (hm x hx) (by omega)) (by omega), Option.bind_some, Int.toNat_natCast, Int.toNat_natCast, if_pos ⟨by omega, allN_true a0 a1 a2 a3 a4 a5 L hn hm K (by omega), idsIn_inc hi hnL⟩]
  have e : (((incIds i n).map cnode).map fun id => nodeV (impl_toy_HashChildren.f K a0 a1 a2 a3 a4 a5) L id.f0.toNat id.f1.toNat) = (incIds i n).map (nodeH (hash a0 a2 a5) (empt a0 a2 a3) L) := by
    rw [List.map_map]
    refine List.map_congr_left (fun p hp => ?_)
    have h1 := inc_in i n hi p hp
    show nodeV _ L ((p.1 : Int)).toNat ((p.2 : Int)).toNat = _
    rw [Int.toNat_natCast, Int.toNat_natCast]
    exact nodeV_eq a0 a1 a2 a3 a4 a5 L hn hm K (by omega) p.1 p.2 (by omega)
  have hmap : ∀ x ∈ (incIds i n).map (nodeH (hash a0 a2 a5) (empt a0 a2 a3) L), x.length ≤ 1502700 := by
    intro x hx
    obtain ⟨p, hp, rfl⟩ := List.mem_map.1 hx
    exact nodeH_len' a0 a2 a3 a5 L hn hm p (Nat.le_trans (inc_in i n hi p hp) hnL)
  have hlm : ((incIds i n).map (nodeH (hash a0 a2 a5) (empt a0 a2 a3) L)).length = (incIds i n).length := List.length_map _
  have hy := hashF_yes a0 a1 a2 a3 a4 a5 _ (incBegin i n) (incEnd i n) 1502700 _ hlm (by omega) (by rw [hlm]; omega) hmap hK
  unfold hashF at hy
  rw [texts_mem _ (by omega) (fun x hx => Nat.le_trans (hmap x hx) (by omega)) (by omega), Option.bind_some, if_pos hlm] at hy
  obtain ⟨f, hf, hy⟩ := Option.bind_eq_some_iff.mp hy
  obtain ⟨r, hr, hy⟩ := Option.bind_eq_some_iff.mp hy
  have hy := congrArg Prod.fst (Option.some.inj hy)
  dsimp only at hy
  unfold treeIncF
  rw [e, hf, Option.bind_some, hr, Option.bind_some, hy]
  have e2 : folded (hash a0 a2 a5) (incBegin i n) (incEnd i n) ((incIds i n).map (nodeH (hash a0 a2 a5) (empt a0 a2 a3) L)) = (path i 0 n).map fun p => mth (hash a0 a2 a5) (empt a0 a2 a3) (seg L p.1 p.2) := by
    rw [path_nParts i _ hi]
    refine (folded_parts (hash a0 a2 a5) (empt a0 a2 a3) (nodeH (hash a0 a2 a5) (empt a0 a2 a3) L) i 0 n hi0).trans ?_
    exact List.map_congr_left (fun p hp => (part_mth (hash a0 a2 a5) (empt a0 a2 a3) L i 0 n hi0 hnL p hp).1)
  rw [e2]
theorem verInc_eq (a0 a1 a2 a3 a4 a5 : Int) (L : List (List Int)) (hn : L.length ≤ 300) (hm : ∀ x ∈ L, x.length ≤ 5000) (i n : Nat) (hi : i < n) (hnL : n ≤ L.length) (h1 : ((L.getD i []).length : Int) = a1) (K : Nat) (hK : 3000000000 ≤ K) :
    impl_VerifyInclusion.f (K + 1) a0 a1 a2 a3 a4 a5 (i : Int) (n : Int) (L.getD i []) ((path i 0 n).map fun p => mth (hash a0 a2 a5) (empt a0 a2 a3) (seg L p.1 p.2)) (mth (hash a0 a2 a5) (empt a0 a2 a3) (L.take n)) = some (0, []) := by
  have hi0 : i < n / 2 ^ 0 := by rw [Nat.pow_zero, Nat.div_one]; exact hi
  have hg : (L.getD i []).length ≤ 5000 := by
    rw [List.getD_eq_getElem?_getD, List.getElem?_eq_getElem (by omega)]
    exact hm _ (List.getElem_mem _)
  have ht : (L.take n).length = n := by rw [List.length_take]; omega
  have hroot : (mth (hash a0 a2 a5) (empt a0 a2 a3) (L.take n)).length ≤ 1502700 := by
    have := mth_length (hash_grows a0 a2 a5) (empt a0 a2 a3) 5000 n (L.take n) ht (by omega) (fun x hx => hm x (List.mem_of_mem_take hx))
    have h4 := Nat.mul_le_mul_left (5000 + 9) (show n ≤ 300 by omega)
    omega
  have hpl : (path i 0 n).length ≤ 64 := Nat.le_trans (path_len i 0 n) (blen_lt64 (by omega))
  have hb : ∀ x ∈ (path i 0 n).map (fun p => mth (hash a0 a2 a5) (empt a0 a2 a3) (seg L p.1 p.2)), x.length ≤ 1502700 := by
    intro x hx
    obtain ⟨p, hp, rfl⟩ := List.mem_map.1 hx
    rw [path_nParts i _ hi] at hp
    obtain ⟨_, q1, q2⟩ := part_mth (hash a0 a2 a5) (empt a0 a2 a3) L i 0 n hi0 hnL p hp
    have q3 := seg_length (L := L) (b := p.1) (e := p.2) (by omega)
    have := mth_length (hash_grows a0 a2 a5) (empt a0 a2 a3) 5000 _ (seg L p.1 p.2) rfl (by omega) (seg_bound hm)
    rw [q3] at this
    have h4 := Nat.mul_le_mul_left (5000 + 9) (show p.2 - p.1 ≤ 300 by omega)
    show (mth _ _ _).length ≤ _
    omega
  have hlen : ((path i 0 n).map fun p => mth (hash a0 a2 a5) (empt a0 a2 a3) (seg L p.1 p.2)).length = fork i (n - 1) + ones (i / 2 ^ fork i (n - 1)) := by rw [List.length_map, path_length n i hi]
  have hrt := incl_root (hash a0 a2 a5) (empt a0 a2 a3) L hi hnL
  have hl64 : ((path i 0 n).map fun p => mth (hash a0 a2 a5) (empt a0 a2 a3) (seg L p.1 p.2)).length ≤ 64 := by rw [List.length_map]; exact hpl
  generalize ((path i 0 n).map fun p => mth (hash a0 a2 a5) (empt a0 a2 a3) (seg L p.1 p.2)) = P at *
  have hF : ∀ l r : List Int, l.length ≤ 1000000000 → r.length ≤ 1000000000 → impl_toy_HashChildren.f (K + 1) a0 a1 a2 a3 a4 a5 l r = some (hash a0 a2 a5 l r) := fun l r h1 h2 => impl_hash _ _ _ _ _ _ _ _ (by omega) (by omega) (by omega)
  have t1 : (P.take (fork i (n - 1))).length ≤ 64 := by rw [List.length_take]; omega
  have t2 : (P.drop (fork i (n - 1))).length ≤ 64 := by rw [List.length_drop]; omega
  obtain ⟨u1, u2⟩ := up_fn _ (hash a0 a2 a5) (hash_le a0 a2 a5) hF 1502700 (by omega) i (by omega) (P.take (fork i (n - 1))) 0 (L.getD i []) (fun x hx => hb x (List.mem_of_mem_take hx)) (by omega)
  have v1 := upB_eq _ (hash a0 a2 a5) (hash_le a0 a2 a5) hF 1502700 (by omega) (P.drop (fork i (n - 1))) (chn (hash a0 a2 a5) (hash a0 a2 a5) i (P.take (fork i (n - 1))) 0 (L.getD i [])) (fun x hx => hb x (List.mem_of_mem_drop hx)) (by omega)
  unfold impl_VerifyInclusion.f
  rw [if_pos ⟨by omega, by omega⟩, texts_mem P (by omega) (fun x hx => Nat.le_trans (hb x hx) (by omega)) (by omega), Option.bind_some, if_pos ⟨by omega, h1⟩, proof_decompInclProof.eq i n hi (by omega), Option.bind_some]
  dsimp only
  rw [if_pos ⟨by omega, by omega, by omega⟩, Int.toNat_natCast, u1, Option.bind_some, v1, Option.bind_some, hrt, if_pos (by omega)]
  unfold vmat
  rw [if_pos (by rw [beq_self_eq_true])]
theorem FnInclusionTaken (x0 : S24) (l1 : List (List (Int))) (a2 : Int) (a3 : Int) (w0 : ((Lit.int .i64 x0.f0).wf = true) ∧ ((Lit.int .i64 x0.f1).wf = true) ∧ ((Lit.int .i64 x0.f2).wf = true) ∧ ((Lit.int .u64 x0.f3).wf = true) ∧ ((Lit.int .u64 x0.f4).wf = true) ∧ ((Lit.int .u64 x0.f5).wf = true)) (w1 : l1.length ≤ maxLen ∧ ∀ l1' ∈ l1, l1'.length ≤ maxLen ∧ ∀ l1'' ∈ l1', (Lit.int .u8 l1'').wf = true) (w2 : (Lit.int .u64 a2).wf = true) (w3 : (Lit.int .u64 a3).wf = true) : ∃ k, laws_FnInclusionTaken.f k x0.f0 x0.f1 x0.f2 x0.f3 x0.f4 x0.f5 l1 a2 a3 = some true := by
  obtain ⟨a0, b1, b2, b3, a4, a5⟩ := x0
  show ∃ k, laws_FnInclusionTaken.f k a0 b1 b2 b3 a4 a5 l1 a2 a3 = some true
  obtain ⟨i, rfl, hi64⟩ := wf_u64 w2
  obtain ⟨n, rfl, hn64⟩ := wf_u64 w3
  obtain ⟨z, kz, hz, hfit⟩ := fits l1
  cases z with
  | false => exact ⟨kz, by unfold laws_FnInclusionTaken.f; rw [hz, Option.bind_some, if_neg (by decide)]⟩
  | true =>
  obtain ⟨f1, f2⟩ := hfit rfl
  obtain ⟨z, hz2, hsm⟩ := small l1 f1
  obtain ⟨K, hK⟩ : ∃ K, K = kz + l1.length + 4000000000 := ⟨_, rfl⟩
  refine ⟨K + 2, ?_⟩
  unfold laws_FnInclusionTaken.f
  rw [lift (fun k => laws_zzFits2.mono l1 k) hz (show kz ≤ K + 2 by omega), Option.bind_some, if_pos rfl, lift (fun k => laws_logSmall.mono l1 k) hz2 (show l1.length + 1 ≤ K + 2 by omega), Option.bind_some]
  cases z with
  | false => rw [if_neg (by decide), laws_FnInclusionTaken.j0, if_pos rfl]
  | true =>
  obtain ⟨g1, g2⟩ := hsm rfl
  have hm := mem_bound g2
  have hw : IntKind.u64.wrap (l1.length : Int) = (l1.length : Int) := u64in (by omega)
  rw [if_pos rfl, hw]
  by_cases h : (n : Int) > (l1.length : Int)
  · rw [if_pos h, laws_FnInclusionTaken.j0, if_pos rfl]
  rw [if_neg h]
  by_cases hin : (i : Int) ≥ (n : Int)
  · rw [if_pos hin, laws_FnInclusionTaken.j0, if_pos rfl]
  rw [if_neg hin, if_pos (by omega), if_pos (by omega), laws_FnInclusionTaken.j0]
  have hrd : rd_L1 l1 (i : Int) = l1.getD i [] := by unfold rd_L1; rw [Int.toNat_natCast]
  rw [hrd]
  by_cases hs : (((l1.getD i []).length : Int) != b1) = true
  · rw [if_pos hs]
  have hs' : ((l1.getD i []).length : Int) = b1 := by
    have := bne_eq_false_iff_eq.mp (by simpa using hs : (((l1.getD i []).length : Int) != b1) = false)
    exact this
  have ht : (l1.take n).length = n := by rw [List.length_take]; omega
  rw [if_neg hs, treeInc_eq a0 b1 b2 b3 a4 a5 l1 g1 hm i n (by omega) (by omega) (K + 1) (by omega), Option.bind_some, impl_TreeRoot.eq a0 b1 b2 b3 a4 a5 l1 g1 hm n (by omega) K (by omega), Option.bind_some, if_pos (by omega), if_pos (by omega)]
  dsimp only
  rw [verInc_eq a0 b1 b2 b3 a4 a5 l1 g1 hm i n (by omega) (by omega) hs' K (by omega), Option.bind_some, if_pos rfl, if_pos rfl, if_pos rfl, if_pos (by omega), if_pos (by omega), Int.toNat_natCast, spec_Root.eq a0 b1 b2 b3 a4 a5 n _ ht (by omega) (fun x hx => hm x (List.mem_of_mem_take hx)) (K + 1) (by omega), Option.bind_some]
  unfold spec_SameText.f
  rw [beq_self_eq_true]; rfl
end Go.Proofs.YtielnphmcaecdaaDoor.Pure
namespace Go.Proofs.YtielnphmcaecdaaDoorW.PrintWords
open Go.RowKit Go.ChangeShapes Go.WideShapes
structure Opens {α : Type} (P : Program) (d : Kd α) (t : TypeId) (wf : α → Prop) : Prop where
  cells : P.cellsOf t = d.sz
  opens : ∀ {H : Type} {enc : TypeId × Value → H} {w : World} {base : Nat} {spare : Nat → Bool} {held : Bool} {n : Nat} {cs : List Value} {y : DataW H × List MemPlace},
    DataW.trod enc P w base spare held n t cs = some y → ∃ x, d.K w x cs ∧ wf x
theorem Opens.int {P : Program} {k : IntKind} {t : TypeId} (ht : P.underlying t = some (.int k)) (hc : P.cellsOf t = 1) : Opens P (Kd.int k) t (fun x => (Lit.int k x).wf = true) where
  cells := hc
  opens := fun h => by
    obtain ⟨n, rfl, _, hw⟩ := DataW.trod_int ht h
    exact ⟨n, rfl, hw⟩
theorem cells_of {w : World} {base : Nat} {a : Addr} {m : Nat} {cs : List Value} (h : w.cells? base a m = some cs) : cs.length = m ∧ ∀ i u, cs[i]? = some u → w.cell? (a.add i) = some u := by
  obtain ⟨_, h1, h2⟩ := World.cells?_some h
  exact ⟨h1, fun i u hu => (h2 i (by have := (List.getElem?_eq_some_iff.1 hu).1; omega)).trans hu⟩
theorem Opens.slice {α : Type} {P : Program} {d : Kd α} {t e : TypeId} {wf : α → Prop} (hd : Opens P d e wf) (ht : P.underlying t = some (.slice e)) (hc : P.cellsOf t = 1) :
    Opens P (Kd.slice e d) t (fun xs => xs.length ≤ maxLen ∧ ∀ x ∈ xs, wf x) where
  cells := hc
  opens := fun {H enc w base spare held n cs y} h => by
    rcases Deep.open_slice ht h with ⟨rfl, _⟩ | ⟨a, len, cap, m, n', D, Pl, rfl, _, hl, hm, hmm, _, hi⟩
    · exact ⟨[], ⟨none, 0, rfl, Nat.le_refl _, rfl, by simp, fun h => absurd h (by simp)⟩, by simp, fun x hx => by simp at hx⟩
    · have hle : len ≤ m := by rw [hmm]; split <;> omega
      have hx : ∀ i, i < len → ∃ x : α, wf x ∧ ∃ cs', d.K w x cs' ∧ w.cells? base (a.add (i * P.cellsOf e)) (P.cellsOf e) = some cs' := fun i h2 => by
        obtain ⟨cs', h3, h4⟩ := hi i (by omega)
        obtain ⟨x, h5, h6⟩ := hd.opens h4
        exact ⟨x, h6, cs', h5, h3⟩
      have hlist : ∀ j, j ≤ len → ∃ xs : List α, xs.length = j ∧ (∀ x ∈ xs, wf x) ∧ ∀ (i : Nat) p, xs[i]? = some p → ∃ cs', d.K w p cs' ∧ w.cells? base (a.add (i * P.cellsOf e)) (P.cellsOf e) = some cs' := by
        intro j
        induction j with
        | zero => exact fun _ => ⟨[], rfl, fun x hx => by simp at hx, fun i p hp => by simp at hp⟩
        | succ j ih =>
          intro hj
          obtain ⟨xs, h1, h2, h3⟩ := ih (by omega)
          obtain ⟨x, h4, cs', h5, h6⟩ := hx j (by omega)
          refine ⟨xs ++ [x], by simp [h1], fun z hz => ?_, fun i p hp => ?_⟩
          · rcases List.mem_append.1 hz with h7 | h7
            · exact h2 z h7
            · rw [List.mem_singleton.1 h7]; exact h4
          · by_cases hij : i < xs.length
            · rw [List.getElem?_append_left hij] at hp
              exact h3 i p hp
            · rw [List.getElem?_append_right (by omega)] at hp
              have : i = j := by
                have := (List.getElem?_eq_some_iff.1 hp).1
                simp at this; omega
              subst this
              rw [h1, Nat.sub_self] at hp
              simp at hp
              subst hp
              exact ⟨cs', h5, h6⟩
      obtain ⟨xs, h1, h2, h3⟩ := hlist len (Nat.le_refl _)
      subst h1
      refine ⟨xs, ⟨some a, cap, rfl, hl, rfl, by unfold maxLen at hm; omega, fun _ => ⟨a, rfl, fun j p hp => ?_⟩⟩, by omega, h2⟩
      obtain ⟨cs', h4, h5⟩ := h3 j p hp
      obtain ⟨h6, h7⟩ := cells_of h5
      refine ⟨cs', d.K_len h4, h4, fun i u hu => ?_⟩
      have := h7 i u hu
      rwa [Deep.add_add, hd.cells] at this
structure OpensFs {α : Type} (P : Program) (d : Kd α) (fs : List Field) (off : Nat) (wf : α → Prop) : Prop where
  opens : ∀ {H : Type} {enc : TypeId × Value → H} {w : World} {base : Nat} {spare : Nat → Bool} {held : Bool} {n : Nat} {cs : List Value},
    (∀ f ∈ fs, ∃ y, DataW.trod enc P w base spare held n f.type ((cs.drop f.offset).take (P.cellsOf f.type)) = some y) → ∃ x, d.K w x ((cs.drop off).take d.sz) ∧ wf x
theorem OpensFs.last {α : Type} {P : Program} {d : Kd α} {f : Field} {off : Nat} {wf : α → Prop} (h : Opens P d f.type wf) (ho : f.offset = off) : OpensFs P d [f] off wf where
  opens := fun hf => by
    obtain ⟨y, hy⟩ := hf f (by simp)
    rw [h.cells, ho] at hy
    exact h.opens hy
theorem OpensFs.cons {α β : Type} {P : Program} {d : Kd α} {d' : Kd β} {f : Field} {fs : List Field} {off : Nat} {wf : α → Prop} {wf' : β → Prop} (h : Opens P d f.type wf) (ho : f.offset = off) (h' : OpensFs P d' fs (off + d.sz) wf') :
    OpensFs P (Kd.pair d d') (f :: fs) off (fun x => wf x.1 ∧ wf' x.2) where
  opens := fun {H enc w base spare held n cs} hf => by
    obtain ⟨y, hy⟩ := hf f (by simp)
    rw [h.cells, ho] at hy
    obtain ⟨x, h1, h2⟩ := h.opens hy
    obtain ⟨x', h3, h4⟩ := h'.opens (cs := cs) fun g hg => hf g (by simp [hg])
    exact ⟨(x, x'), ⟨_, _, by rw [show (Kd.pair d d').sz = d.sz + d'.sz from rfl, List.take_add, List.drop_drop], h1, h3⟩, h2, h4⟩
theorem Opens.struct {α β : Type} {P : Program} {d : Kd α} {t : TypeId} {fs : Array Field} {wf : α → Prop} (ht : P.underlying t = some (.struct fs)) (h : OpensFs P d fs.toList 0 wf) (hc : P.cellsOf t = d.sz) (f : β → α) (g : α → β) (hfg : ∀ a, f (g a) = a) :
    Opens P (Kd.iso d f) t (fun x => wf (f x)) where
  cells := hc
  opens := fun {H enc w base spare held n cs y} hy => by
    obtain ⟨xs, m, _, _, hl, hn, hi⟩ := DataW.trod_struct ht hy
    obtain ⟨x, h1, h2⟩ := h.opens (cs := cs) (enc := enc) (n := m) fun f0 hf0 => by
      obtain ⟨i, hlt, rfl⟩ := List.mem_iff_getElem.1 hf0
      rw [Array.length_toList] at hlt
      have h3 := hi i fs[i] (Array.getElem?_eq_getElem hlt)
      have h4 : i < xs.length := by rw [hn]; exact hlt
      rw [List.getElem?_eq_getElem h4] at h3
      exact ⟨_, by simpa using h3⟩
    rw [List.drop_zero, List.take_of_length_le (by rw [hl, hc]; exact Nat.le_refl _)] at h1
    exact ⟨g x, by show d.K w (f (g x)) cs; rw [hfg]; exact h1, by rw [hfg]; exact h2⟩
section
variable {H : Type} {enc : TypeId × Value → H} {P : Program} {w : World} {base : Nat} {spare : Nat → Bool} {held : Bool} {r : Reach} {b0 : Nat} {t : TypeId} {v : Value} {dat : DataW H} {p : List MemPlace}
theorem Opens.arg_slice {α : Type} {d : Kd α} {e : TypeId} {wf : List α → Prop} (h : Opens P (Kd.slice e d) t wf) (ht : P.underlying t = some (.slice e)) (hv : Value.okWide P w r b0 t v) (hT : DataW.Trod enc P w base spare held t v dat p) :
    ∃ (A : Option Addr) (xs : List α) (c : Nat), v = .slice A xs.length c ∧ xs.length ≤ c ∧ d.C w A xs.length xs ∧ wf xs := by
  obtain ⟨a, len, cap, rfl⟩ := okWide_slice ht hv
  obtain ⟨fuel, hf⟩ := hT
  obtain ⟨xs, ⟨A, c, hcs, hle, hC⟩, hw⟩ := h.opens hf
  simp [Value.cells] at hcs
  obtain ⟨rfl, rfl, rfl⟩ := hcs
  exact ⟨_, xs, _, rfl, hle, hC, hw⟩
theorem Opens.arg_struct {α : Type} {d : Kd α} {fs : Array Field} {wf : α → Prop} (h : Opens P d t wf) (ht : P.underlying t = some (.struct fs)) (hv : Value.okWide P w r b0 t v) (hT : DataW.Trod enc P w base spare held t v dat p) :
    ∃ (x : α) (cs : List Value), v = .agg cs.toArray ∧ d.K w x cs ∧ wf x := by
  obtain ⟨cs, rfl, _⟩ := okWide_struct ht hv
  obtain ⟨fuel, hf⟩ := hT
  obtain ⟨x, h1, h2⟩ := h.opens hf
  exact ⟨x, cs.toList, by simp, h1, h2⟩
end
end Go.Proofs.YtielnphmcaecdaaDoorW.PrintWords
