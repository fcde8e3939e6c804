-- Written by a program of this session (wip/tools)
import Derived.Test.YtielnphmcaecdaaDoorQTTGrowPlan
import Derived.Test.YtielnphmcaecdaaDoorQTTPAllx26
import Derived.Test.YtielnphmcaecdaaDoorQTTRangeRoot
import Derived.Test.YtielnphmcaecdaaDoorQTTMergeLaw
import Derived.Test.YtielnphmcaecdaaDoorQTTV0
import Derived.Deep.Slices
import Derived.Lib.SmallJoins
set_option maxHeartbeats 8000000
set_option maxRecDepth 100000
set_option linter.unusedVariables false
set_option linter.unusedSimpArgs false
namespace Go.Proofs.YtielnphmcaecdaaDoor.Hsh
open Go.RowKit Go.Proofs.YtielnphmcaecdaaDoor.Num Go.Proofs.YtielnphmcaecdaaDoor.Mth Go.Proofs.YtielnphmcaecdaaDoor.PAll Go.Proofs.YtielnphmcaecdaaDoorW.PrintWords Go.Proofs.YtielnphmcaecdaaDoorW.PrintLast
section find
variable (N : List (Nat × Nat)) (vs : List (List Int))
theorem rd_vis (hl : N.length = vs.length) {j : Nat} (hj : j < N.length) : rd_T51 (List.zipWith vis N vs) (j : Int) = vis N[j] (vs[j]'(by omega)) := by
 show (List.zipWith vis N vs).getD j z51 = _
 rw [List.getD_eq_getElem?_getD, List.getElem?_eq_getElem (by rw [List.length_zipWith]; omega), List.getElem_zipWith]; rfl
theorem vis_is {p q : Nat × Nat} {x : List Int} : (((vis q x).f0.f0 == ((p.1 : Nat) : Int) && (vis q x).f0.f1 == ((p.2 : Nat) : Int)) = true) ↔ q = p := by
 show ((((q.1 : Nat) : Int) == ((p.1 : Nat) : Int) && ((q.2 : Nat) : Int) == ((p.2 : Nat) : Int)) = true) ↔ q = p
 rw [Bool.and_eq_true, beq_iff_eq, beq_iff_eq, Int.ofNat_inj, Int.ofNat_inj]
 constructor
 ·intro h; exact Prod.ext h.1 h.2
 ·rintro rfl; exact ⟨rfl, rfl⟩
theorem l2_found (hl : N.length = vs.length) (hn : N.length ≤ 1000) (ids : List S49) (z w : Int) (p : Nat × Nat) (out : List (List Int)) (k : Nat) : ∀ d j, j + d = N.length →
 laws_growthHashes.l2 (d + 1 + k) (List.zipWith vis N vs) out true ids z w (List.zipWith vis N vs) ((List.zipWith vis N vs).length : Int) (j : Int) (p.1 : Int) (p.2 : Int) = laws_growthHashes.l1 k (List.zipWith vis N vs) out ids z (wrap64 (w + 1))
 | 0, j, hj => by
  have hz : (List.zipWith vis N vs).length = N.length := by rw [List.length_zipWith]; omega
  rw [show 0 + 1 + k = k + 1 by omega, laws_growthHashes.l2, if_neg (by omega), if_pos rfl]
 | d + 1, j, hj => by
  have hz : (List.zipWith vis N vs).length = N.length := by rw [List.length_zipWith]; omega
  have ih := l2_found hl hn ids z w p out k d (j + 1) (by omega)
  rw [show d + 1 + 1 + k = (d + 1 + k) + 1 by omega, laws_growthHashes.l2, if_pos (by omega), if_pos (by omega), if_pos (by omega), next64 (by omega), ih, if_pos rfl, ite_self]
theorem l2_find (hl : N.length = vs.length) (hn : N.length ≤ 1000) (hv : ∀ x ∈ vs, x.length ≤ 100000000) (ids : List S49) (z w : Int) (p : Nat × Nat) (out : List (List Int)) (ho : out.length ≤ 1000000) (k : Nat) (y : (Nat × Nat) × List Int) : ∀ d j, j + d = N.length → ((N.zip vs).drop j).find? (fun x => decide (x.1 = p)) = some y →
 laws_growthHashes.l2 (d + 1 + k) (List.zipWith vis N vs) out false ids z w (List.zipWith vis N vs) ((List.zipWith vis N vs).length : Int) (j : Int) (p.1 : Int) (p.2 : Int) = laws_growthHashes.l1 k (List.zipWith vis N vs) (out ++ [y.2]) ids z (wrap64 (w + 1))
 | 0, j, hj, h => by
  rw [List.drop_of_length_le (by rw [List.length_zip]; omega)] at h
  cases h
 | d + 1, j, hj, h => by
  have hz : (List.zipWith vis N vs).length = N.length := by rw [List.length_zipWith]; omega
  have hj1 : j < N.length := by omega
  have hd : (N.zip vs).drop j = (N[j], vs[j]'(by omega)) :: (N.zip vs).drop (j + 1) := by
   rw [List.drop_eq_getElem_cons (by rw [List.length_zip]; omega), List.getElem_zip]
  rw [hd] at h
  have hlen : (vs[j]'(by omega)).length ≤ 100000000 := hv _ (List.getElem_mem _)
  rw [show d + 1 + 1 + k = (d + 1 + k) + 1 by omega, laws_growthHashes.l2, if_pos (by omega), if_pos (by omega), if_pos (by omega), next64 (by omega), rd_vis N vs hl hj1]
  by_cases hp : N[j] = p
  ·rw [List.find?_cons_of_pos (by simpa using hp)] at h
   obtain rfl := Option.some.inj h
   rw [if_pos (vis_is.mpr hp), if_neg (by decide), Option.bind_some, if_pos (by show ([] : List Int).length + (vs[j]'(by omega)).length < _; simp only [List.length_nil]; omega), if_pos (by omega), List.nil_append]
   exact l2_found N vs hl hn ids z w p _ k d (j + 1) (by omega)
  ·rw [List.find?_cons_of_neg (by simpa using hp)] at h
   rw [if_neg (fun hc => hp (vis_is.mp hc))]
   exact l2_find hl hn hv ids z w p out ho k y d (j + 1) (by omega) h
theorem l1_all (hl : N.length = vs.length) (hn : N.length ≤ 1000) (hv : ∀ x ∈ vs, x.length ≤ 100000000) (ids : List (Nat × Nat)) (hi : ids.length ≤ 1000) (hin : ∀ p ∈ ids, ∃ v, knV N vs p = some v) : ∀ (d i k : Nat), i + d = ids.length → d * 1010 < k →
 laws_growthHashes.l1 k (List.zipWith vis N vs) ((ids.map fun p => (knV N vs p).getD []).take i) (ids.map inode) ((ids.map inode).length : Int) (i : Int) = some (ids.map fun p => (knV N vs p).getD [], true) := by
 intro d
 induction d with
 | zero =>
  intro i k hd hk
  obtain ⟨k, rfl⟩ : ∃ j, k = j + 1 := ⟨k - 1, by omega⟩
  rw [laws_growthHashes.l1, if_neg (by rw [List.length_map]; omega), List.take_of_length_le (by rw [List.length_map]; omega)]
 | succ d ih =>
  intro i k hd hk
  have hz : (List.zipWith vis N vs).length = N.length := by rw [List.length_zipWith]; omega
  have e1 : rd_T49 (ids.map inode) (i : Int) = inode (ids[i]'(by omega)) := by
   show (ids.map inode).getD i z49 = _
   rw [List.getD_eq_getElem?_getD, List.getElem?_map, List.getElem?_eq_getElem (by omega)]; rfl
  obtain ⟨v, hkv⟩ := hin (ids[i]'(by omega)) (List.getElem_mem _)
  obtain ⟨y, hy, hyv⟩ := Option.map_eq_some_iff.mp (show ((N.zip vs).find? (fun x => decide (x.1 = ids[i]'(by omega)))).map (fun x => x.2) = some v from hkv)
  have hmul : (d + 1) * 1010 = d * 1010 + 1010 := Nat.succ_mul d 1010
  rw [hmul] at hk
  clear hmul
  obtain ⟨X, hX⟩ : ∃ X, d * 1010 = X := ⟨_, rfl⟩
  rw [hX] at hk ih
  obtain ⟨k', hk1, hk2⟩ : ∃ k', k = (N.length + 1 + k') + 1 ∧ X < k' := ⟨k - N.length - 2, by omega, by omega⟩
  rw [hk1]
  have h := l2_find N vs hl hn hv (ids.map inode) ((ids.map inode).length : Int) (i : Int) (ids[i]'(by omega)) ((ids.map fun p => (knV N vs p).getD []).take i) (by rw [List.length_take]; omega) k' y N.length 0 (by omega) (by rw [List.drop_zero]; exact hy)
  rw [laws_growthHashes.l1, if_pos (by rw [List.length_map]; omega), if_pos (by omega), if_pos (by rw [List.length_map]; omega), e1]
  refine h.trans ?_
  rw [next64 (by omega)]
  have e3 : (ids.map fun p => (knV N vs p).getD []).take i ++ [y.2] = (ids.map fun p => (knV N vs p).getD []).take (i + 1) := by
   rw [List.take_add_one, List.getElem?_map, List.getElem?_eq_getElem (by omega), hyv]
   show _ = _ ++ [(knV N vs (ids[i]'(by omega))).getD []]
   rw [hkv]; rfl
  rw [e3]
  exact ih (i + 1) k' (by omega) hk2
end find
theorem growthHashes_eq {s n : Nat} (hs : s ≤ n) (hn : n < 18446744073709551616) {xs ys : List (List Int)} (hl : xs.length = (Nds 0 0 s).length) (hyl : ys.length = (Nds 0 s n).length) (hxs : ∀ x ∈ xs, x.length ≤ 100000000) (hys : ∀ x ∈ ys, x.length ≤ 100000000) (ids : List (Nat × Nat)) (hi : ids.length ≤ 1000) (hin : ∀ p ∈ ids, p ∈ twoK s n) (K : Nat) (hK : 3000000 ≤ K) :
 laws_growthHashes.f K (ids.map inode) [⟨0, (s : Int), xs⟩, ⟨(s : Int), (n : Int), ys⟩] = some (ids.map fun p => (knV (twoK s n) (xs ++ ys) p).getD [], true) := by
 have hx1 := Nds_len 0 0 s 64 (by omega)
 have hy1 := Nds_len 0 s n 64 (by omega)
 have hzw : List.zipWith vis (Nds 0 0 s) xs ++ List.zipWith vis (Nds 0 s n) ys = List.zipWith vis (twoK s n) (xs ++ ys) := by
  unfold twoK
  rw [List.zipWith_append hl.symm]
 have hz1 : (List.zipWith vis (Nds 0 0 s) xs).length = xs.length := by rw [List.length_zipWith]; omega
 have hz2 : (List.zipWith vis (Nds 0 s n) ys).length = ys.length := by rw [List.length_zipWith]; omega
 have hkl : (twoK s n).length = (xs ++ ys).length := by unfold twoK; rw [List.length_append, List.length_append]; omega
 have hkn : (twoK s n).length ≤ 1000 := by rw [hkl, List.length_append]; omega
 obtain ⟨k, rfl⟩ : ∃ k, K = k + 3 := ⟨K - 3, by omega⟩
 unfold laws_growthHashes.f
 rw [laws_growthHashes.l0, if_pos (by simp), if_pos (by decide), if_pos (by simp)]
 have r0 : rd_T34 [⟨0, (s : Int), xs⟩, ⟨(s : Int), (n : Int), ys⟩] 0 = ⟨0, (s : Int), xs⟩ := rfl
 have r1 : rd_T34 [⟨0, (s : Int), xs⟩, ⟨(s : Int), (n : Int), ys⟩] 1 = ⟨(s : Int), (n : Int), ys⟩ := rfl
 have n0 := spec_Named.eq 0 s (Nat.zero_le _) (by omega) xs hl.symm (k + 2) (by omega)
 have n1 := spec_Named.eq s n hs hn ys hyl.symm (k + 1) (by omega)
 rw [r0, show ((0 : Nat) : Int) = 0 from rfl] at *
 rw [n0, Option.bind_some, if_pos (by rw [hz1]; simp only [List.length_nil]; omega), List.nil_append, show wrap64 ((0 : Int) + 1) = 1 by unfold wrap64; omega, laws_growthHashes.l0, if_pos (by simp), if_pos (by decide), if_pos (by simp), r1, n1, Option.bind_some, if_pos (by rw [hz1, hz2]; omega), show wrap64 ((1 : Int) + 1) = 2 by unfold wrap64; omega, laws_growthHashes.l0, if_neg (by simp), hzw]
 have h := l1_all (twoK s n) (xs ++ ys) hkl hkn (fun x hx => (List.mem_append.mp hx).elim (hxs x) (hys x)) ids hi (fun p hp => by
  obtain ⟨i, hi2, rfl⟩ := List.getElem_of_mem (hin p hp)
  exact ⟨_, knV_at (twoK s n) (xs ++ ys) i (twoK_nodup s n) hkl hi2⟩) ids.length 0 k (by omega) (by have := Nat.mul_le_mul_right 1010 hi; omega)
 rw [List.take_zero] at h
 exact h
theorem next_step (k : Nat) (at_ : Int) (l : List S34) (z : Int) (i : Nat) (hi : i < l.length) (hz : z = (l.length : Int)) (hl : l.length ≤ 1000) (r : Bool) (h : laws_rangeFair.f k (rd_T34 l (i : Int)).f0 (rd_T34 l (i : Int)).f1 (rd_T34 l (i : Int)).f2 = some r) :
 laws_growthNext.l0 (k + 1) at_ l z (i : Int) = if r = true ∧ (rd_T34 l (i : Int)).f0 = at_ then laws_growthNext.l0 k (rd_T34 l (i : Int)).f1 l z ((i + 1 : Nat) : Int) else some false := by
 rw [laws_growthNext.l0, if_pos (by omega), if_pos (by omega), if_pos (by omega), h, Option.bind_some, next64 (by omega)]
 cases r with
 | false => rw [if_neg (by decide), if_neg (by simp)]
 | true =>
  rw [if_pos rfl]
  by_cases h2 : (rd_T34 l (i : Int)).f0 = at_
  ·rw [if_pos h2, if_pos ⟨rfl, h2⟩]
  ·rw [if_neg h2, if_neg (fun h => h2 h.2)]
theorem real_nil : Real [] := by unfold Real; simp
theorem cons_main (a0 a1 a2 a3 a4 a5 : Int) {s n : Nat} (h0 : 0 < s) (hs : s ≤ n) (hn : n < 18446744073709551616) {xs ys : List (List Int)} (hl : xs.length = (Nds 0 0 s).length) (hyl : ys.length = (Nds 0 s n).length) (hxs : ∀ x ∈ xs, x.length ≤ 5000) (hys : ∀ x ∈ ys, x.length ≤ 5000) (hxr : ∀ x ∈ xs, Real x) (hyr : ∀ x ∈ ys, Real x) (k : Nat) (hk : 4000000000 + n ≤ k) :
 ConsMain (k + 1) a0 a1 a2 a3 a4 a5 0 (s : Int) xs (s : Int) (n : Int) ys := by
 have hkl : (twoK s n).length = (xs ++ ys).length := by unfold twoK; rw [List.length_append, List.length_append]; omega
 obtain ⟨H', hH'⟩ : ∃ H', H' = tokH (hash a0 a2 a5) (twoK s n) (xs ++ ys) := ⟨_, rfl⟩
 obtain ⟨L, hL⟩ : ∃ L, L = tokL (twoK s n) (xs ++ ys) n := ⟨_, rfl⟩
 have hLl : L.length = n := by rw [hL]; exact tokL_len _ _ _
 have hH : ∀ l r, Real l → H' l r = hash a0 a2 a5 l r := fun l r h => by rw [hH']; exact tokH_real h r
 have hR := hash_real a0 a2 a5
 have hknown : ∀ i, (h : i < (twoK s n).length) → nodeH H' [] L (twoK s n)[i] = (xs ++ ys).getD i [] := fun i h => by
  rw [hH', hL]; exact tok_known (hash a0 a2 a5) [] hs (xs ++ ys) hkl h
 have hmap : (twoK s n).map (nodeH H' [] L) = xs ++ ys := by
  apply List.ext_getElem
  ·rw [List.length_map]; exact hkl
  ·intro i h1 h2
   rw [List.getElem_map, hknown i (by rw [List.length_map] at h1; exact h1), List.getD_eq_getElem?_getD, List.getElem?_eq_getElem h2]; rfl
 obtain ⟨hx, hy⟩ : (Nds 0 0 s).map (nodeH H' [] L) = xs ∧ (Nds 0 s n).map (nodeH H' [] L) = ys := by
  unfold twoK at hmap
  rw [List.map_append] at hmap
  exact List.append_inj hmap (by rw [List.length_map]; exact hl.symm)
 have hv : ∀ h q, 0 ≤ 2 * q * 2 ^ h → (2 * q + 2) * 2 ^ h ≤ n → nodeH H' [] L (h + 1, q) = H' (nodeH H' [] L (h, 2 * q)) (nodeH H' [] L (h, 2 * q + 1)) := fun h q _ hq => by
  have e : (q + 1) * 2 ^ (h + 1) = (2 * q + 2) * 2 ^ h := by rw [pow_up, Nat.mul_left_comm, ← Nat.mul_assoc]; rfl
  exact mth_perfect H' [] (by rw [hLl, e]; exact hq)
 -- the roots
 obtain ⟨v1, q1, q2⟩ := root_form a0 a1 a2 a3 a4 a5 [] k (by omega) s h0 (by omega) (M := 5000) (by omega) hl hxs
 obtain ⟨zs, V, z1, z2, z3, z4, z5⟩ := append_form a0 a1 a2 a3 a4 a5 (Nat.zero_le s) hs hn h0 (M := 5000) (by omega) hl hyl hxs hys hxr hyr k (by omega)
 obtain ⟨v2, q3, q4⟩ := root_form a0 a1 a2 a3 a4 a5 [] k (by omega) n (by omega) hn (M := (5000 + 9) * 64) (by omega) z2 z3
 have hz := z5 H' (nodeH H' [] L) hH hv hx.symm hy.symm
 have f1 := foldR_real hR hH [] real_nil xs hxr
 have f2 := foldR_real hR hH [] real_nil zs z4
 have g1 : foldR (hash a0 a2 a5) [] xs = mth H' [] (seg L 0 s) := by
  rw [← f1.1, ← hx]
  exact fold_nodes H' [] L s (by omega) _ 64 0 rfl (by decide) (by omega) h0
 have g2 : foldR (hash a0 a2 a5) [] zs = mth H' [] (seg L 0 L.length) := by
  rw [← f2.1, hz, hLl]
  exact fold_nodes H' [] L n (by omega) _ 64 0 rfl (by decide) (by omega) (by omega)
 rw [g1] at q1 q2
 have hr1 : Real (mth H' [] (seg L 0 s)) := by rw [← g1]; exact f1.2
 rw [g2] at q3 q4
 -- the hashes of the nodes
 obtain ⟨c1, c2, c3⟩ := conPlan_len s n hs hn
 have hin := conPlan_in s n h0 hs hn
 have hval : ∀ p ∈ twoK s n, (knV (twoK s n) (xs ++ ys) p).getD [] = nodeH H' [] L p ∧ nodeH H' [] L p ∈ xs ++ ys := fun p hp => by
  obtain ⟨i, hi, rfl⟩ := List.getElem_of_mem hp
  rw [hknown i hi, knV_at (twoK s n) (xs ++ ys) i (twoK_nodup s n) hkl hi]
  refine ⟨rfl, ?_⟩
  rw [List.getD_eq_getElem?_getD, List.getElem?_eq_getElem (by omega)]
  exact List.getElem_mem _
 have hh := growthHashes_eq hs hn hl hyl (fun x h => Nat.le_trans (hxs x h) (by omega)) (fun x h => Nat.le_trans (hys x h) (by omega)) (conPlan s n).1 (by omega) hin (k + 1) (by omega)
 rw [List.map_congr_left (fun p hp => (hval p (hin p hp)).1)] at hh
 have hhm : ∀ x ∈ (conPlan s n).1.map (nodeH H' [] L), x.length ≤ 5000 ∧ Real x := fun x hx => by
  obtain ⟨p, hp, rfl⟩ := List.mem_map.mp hx
  rcases List.mem_append.mp (hval p (hin p hp)).2 with h | h
  ·exact ⟨hxs _ h, hxr _ h⟩
  ·exact ⟨hys _ h, hyr _ h⟩
 have hhl : ((conPlan s n).1.map (nodeH H' [] L)).length = (conPlan s n).1.length := List.length_map _
 -- the proof
 have hmk := hashF_yes a0 a1 a2 a3 a4 a5 (conPlan s n).1.length (conPlan s n).2.1 (conPlan s n).2.2 5000 ((conPlan s n).1.map (nodeH H' [] L)) hhl (by omega) (by rw [hhl]; have := Nat.mul_le_mul_left (5000 + 9) (show (conPlan s n).1.length + 1 ≤ 401 by omega); omega) (fun x hx => (hhm x hx).1) (K := k + 1) (by omega)
 obtain ⟨p1, p2⟩ := folded_real hR hH (conPlan s n).2.1 (conPlan s n).2.2 (fun x hx => (hhm x hx).2)
 obtain ⟨_, p3⟩ := folded_le (hash_le a0 a2 a5) (conPlan s n).2.1 (conPlan s n).2.2 (fun x hx => (hhm x hx).1)
 have hpp := plan_proof H' [] L (by omega) s h0 (by omega)
 rw [hLl, p1] at hpp
 obtain ⟨proof, hproof⟩ : ∃ proof, proof = folded (hash a0 a2 a5) (conPlan s n).2.1 (conPlan s n).2.2 ((conPlan s n).1.map (nodeH H' [] L)) := ⟨_, rfl⟩
 rw [← hproof] at hmk p2 p3 hpp
 rw [hhl] at p3
 have p4 : ∀ x ∈ proof, x.length ≤ 5000000 := fun x hx => by
  have h1 := p3 x hx
  have h2 := Nat.mul_le_mul_left (5000 + 9) c3
  omega
 have hcl : proof.length ≤ 1000 := by
  rw [hpp, List.length_map]
  have h1 := cpath_len s 0 n true
  have h2 := blen_lt64 (n := n - 0 - 1) (by omega)
  omega
 have hmk' : impl_ConsistencyHashes.f (k + 1) a0 a1 a2 a3 a4 a5 (s : Int) (n : Int) ((conPlan s n).1.map (nodeH H' [] L)) = some (proof, true) := by
  unfold impl_ConsistencyHashes.f
  rw [if_neg (by omega), if_pos ⟨by omega, by omega⟩, Int.toNat_natCast, Int.toNat_natCast]
  exact hmk
 have hver : verC (k + 1) (impl_toy_HashChildren.f (k + 1) a0 a1 a2 a3 a4 a5) (s : Int) (n : Int) proof (mth H' [] (seg L 0 s)) (mth H' [] (seg L 0 L.length)) = some (0, []) := by
  rcases Nat.eq_or_lt_of_le hs with e | e
  ·unfold verC
   rw [if_pos (by omega), if_pos (by rw [hpp, e, cpath_end]; rfl), hLl, e, vmat_self]
  ·have h := verC_grow a0 a1 a2 a3 a4 a5 hH [] L (by omega) s h0 (by omega) proof (by rw [hLl]; exact hpp) p4 p2 q2 hr1 (k + 1) (by omega)
   rw [hLl] at h ⊢
   exact h
 refine ⟨s, n, _, v1, _, _, zs, V, _, v2, _, proof, [], _, rfl, rfl, ⟨h0, hs, hn⟩, q1, z1, q3, hh, hmk', ?_, spec_ProofParts.eq s n h0 hs hn (k + 1) (by omega), by rw [hpp, List.length_map, List.length_map]⟩
 unfold impl_VerifyConsistency.f
 rw [if_pos ⟨by omega, by omega⟩, texts_small proof hcl p4 (by omega) (by omega), Option.bind_some, if_pos ⟨by omega, by omega, by omega⟩, hver, Option.bind_some, if_pos (by decide)]
theorem fits7 (b e : Int) (xs : List (List Int)) : ∃ y k0, (∀ K, k0 ≤ K → laws_zzFits7.f K b e xs = some y) ∧ (y = true → xs.length ≤ 2147483647) := by
 obtain ⟨y, k1, h1, f1⟩ := fits xs
 refine ⟨y, k1, fun K hK => ?_, fun h => (f1 h).1⟩
 unfold laws_zzFits7.f
 rw [lift (fun k => laws_zzFits2.mono xs k) h1 hK, Option.bind_some]
 cases y <;> rfl
def Fair (b e : Nat) (xs : List (List Int)) : Prop := b ≤ e ∧ xs.length = (Nds 0 b e).length ∧ ∀ x ∈ xs, x.length ≤ 5000
theorem next_nil (k : Nat) (at_ : Int) (l : List S34) : laws_growthNext.l0 (k + 1) at_ l (l.length : Int) (l.length : Int) = some true := by
 rw [laws_growthNext.l0, if_neg (by omega)]
theorem next2 {b e b2 e2 : Nat} (hb : b < 18446744073709551616) (he : e < 18446744073709551616) (hb2 : b2 < 18446744073709551616) (he2 : e2 < 18446744073709551616) {xs ys : List (List Int)} (hl : xs.length ≤ 2147483647) (hyl : ys.length ≤ 2147483647) :
 ∃ z, (∀ K, 3000000000 ≤ K → laws_growthNext.f K [⟨(b : Int), (e : Int), xs⟩, ⟨(b2 : Int), (e2 : Int), ys⟩] = some z) ∧ (z = true → b = 0 ∧ b2 = e ∧ Fair b e xs ∧ Fair b2 e2 ys) := by
 obtain ⟨t1, r1, q1⟩ := fair_eq b e hb he xs hl
 obtain ⟨t2, r2, q2⟩ := fair_eq b2 e2 hb2 he2 ys hyl
 refine ⟨decide (t1 = true ∧ (b : Int) = 0) && decide (t2 = true ∧ (b2 : Int) = (e : Int)), fun K hK => ?_, fun h => ?_⟩
 ·obtain ⟨k, rfl⟩ : ∃ k, K = k + 3 := ⟨K - 3, by omega⟩
  have s1 := next_step (k + 2) 0 [⟨(b : Int), (e : Int), xs⟩, ⟨(b2 : Int), (e2 : Int), ys⟩] _ 0 (by simp) rfl (by simp) t1 (r1 _ (by omega))
  have s2 := next_step (k + 1) (e : Int) [⟨(b : Int), (e : Int), xs⟩, ⟨(b2 : Int), (e2 : Int), ys⟩] _ 1 (by simp) rfl (by simp) t2 (r2 _ (by omega))
  have s3 := next_nil k (e2 : Int) [⟨(b : Int), (e : Int), xs⟩, ⟨(b2 : Int), (e2 : Int), ys⟩]
  unfold laws_growthNext.f
  refine s1.trans ?_
  by_cases g1 : t1 = true ∧ (b : Int) = 0
  ·rw [decide_eq_true g1, Bool.true_and]
   refine (if_pos g1).trans (s2.trans ?_)
   by_cases g2 : t2 = true ∧ (b2 : Int) = (e : Int)
   ·rw [decide_eq_true g2]
    exact (if_pos g2).trans s3
   ·rw [decide_eq_false g2]
    exact if_neg g2
  ·rw [decide_eq_false g1, Bool.false_and]
   exact if_neg g1
 ·rw [Bool.and_eq_true, decide_eq_true_eq, decide_eq_true_eq] at h
  exact ⟨by omega, by omega, q1 h.1.1, q2 h.2.1⟩
theorem next3 {b e b2 e2 b3 e3 : Nat} (hb : b < 18446744073709551616) (he : e < 18446744073709551616) (hb2 : b2 < 18446744073709551616) (he2 : e2 < 18446744073709551616) (hb3 : b3 < 18446744073709551616) (he3 : e3 < 18446744073709551616) {xs ys ws : List (List Int)} (hl : xs.length ≤ 2147483647) (hyl : ys.length ≤ 2147483647) (hwl : ws.length ≤ 2147483647) :
 ∃ z, (∀ K, 3000000000 ≤ K → laws_growthNext.f K [⟨(b : Int), (e : Int), xs⟩, ⟨(b2 : Int), (e2 : Int), ys⟩, ⟨(b3 : Int), (e3 : Int), ws⟩] = some z) ∧ (z = true → b = 0 ∧ b2 = e ∧ b3 = e2 ∧ Fair b e xs ∧ Fair b2 e2 ys ∧ Fair b3 e3 ws) := by
 obtain ⟨t1, r1, q1⟩ := fair_eq b e hb he xs hl
 obtain ⟨t2, r2, q2⟩ := fair_eq b2 e2 hb2 he2 ys hyl
 obtain ⟨t3, r3, q3⟩ := fair_eq b3 e3 hb3 he3 ws hwl
 refine ⟨decide (t1 = true ∧ (b : Int) = 0) && (decide (t2 = true ∧ (b2 : Int) = (e : Int)) && decide (t3 = true ∧ (b3 : Int) = (e2 : Int))), fun K hK => ?_, fun h => ?_⟩
 ·obtain ⟨k, rfl⟩ : ∃ k, K = k + 4 := ⟨K - 4, by omega⟩
  have s1 := next_step (k + 3) 0 [⟨(b : Int), (e : Int), xs⟩, ⟨(b2 : Int), (e2 : Int), ys⟩, ⟨(b3 : Int), (e3 : Int), ws⟩] _ 0 (by simp) rfl (by simp) t1 (r1 _ (by omega))
  have s2 := next_step (k + 2) (e : Int) [⟨(b : Int), (e : Int), xs⟩, ⟨(b2 : Int), (e2 : Int), ys⟩, ⟨(b3 : Int), (e3 : Int), ws⟩] _ 1 (by simp) rfl (by simp) t2 (r2 _ (by omega))
  have s3 := next_step (k + 1) (e2 : Int) [⟨(b : Int), (e : Int), xs⟩, ⟨(b2 : Int), (e2 : Int), ys⟩, ⟨(b3 : Int), (e3 : Int), ws⟩] _ 2 (by simp) rfl (by simp) t3 (r3 _ (by omega))
  have s4 := next_nil k (e3 : Int) [⟨(b : Int), (e : Int), xs⟩, ⟨(b2 : Int), (e2 : Int), ys⟩, ⟨(b3 : Int), (e3 : Int), ws⟩]
  unfold laws_growthNext.f
  refine s1.trans ?_
  by_cases g1 : t1 = true ∧ (b : Int) = 0
  ·rw [decide_eq_true g1, Bool.true_and]
   refine (if_pos g1).trans (s2.trans ?_)
   by_cases g2 : t2 = true ∧ (b2 : Int) = (e : Int)
   ·rw [decide_eq_true g2, Bool.true_and]
    refine (if_pos g2).trans (s3.trans ?_)
    by_cases g3 : t3 = true ∧ (b3 : Int) = (e2 : Int)
    ·rw [decide_eq_true g3]
     exact (if_pos g3).trans s4
    ·rw [decide_eq_false g3]
     exact if_neg g3
   ·rw [decide_eq_false g2, Bool.false_and]
    exact if_neg g2
  ·rw [decide_eq_false g1, Bool.false_and]
   exact if_neg g1
 ·rw [Bool.and_eq_true, Bool.and_eq_true, decide_eq_true_eq, decide_eq_true_eq, decide_eq_true_eq] at h
  exact ⟨by omega, by omega, by omega, q1 h.1.1, q2 h.2.1.1, q3 h.2.2.1⟩
theorem cons_pl (a0 a1 a2 a3 a4 a5 : Int) {b e b2 e2 : Nat} (hb : b < 18446744073709551616) (he : e < 18446744073709551616) (hb2 : b2 < 18446744073709551616) (he2 : e2 < 18446744073709551616) (xs ys : List (List Int)) (hxr : ∀ x ∈ xs, Real x) (hyr : ∀ x ∈ ys, Real x) :
 ∃ k0, ∀ K, k0 ≤ K → ConsPl K a0 a1 a2 a3 a4 a5 (b : Int) (e : Int) xs (b2 : Int) (e2 : Int) ys := by
 obtain ⟨y1, k1, h1, f1⟩ := fits7 (b : Int) (e : Int) xs
 obtain ⟨y2, k2, h2, f2⟩ := fits7 (b2 : Int) (e2 : Int) ys
 refine ⟨k1 + k2 + 5000000000 + e2, fun K hK => ?_⟩
 unfold ConsPl
 cases y1 with
 | false => exact .inl (h1 K (by omega))
 | true =>
 cases y2 with
 | false => exact .inr (.inl ⟨h1 K (by omega), h2 K (by omega)⟩)
 | true =>
 refine .inr (.inr ⟨h1 K (by omega), h2 K (by omega), ?_⟩)
 by_cases h0 : (e : Int) = 0
 ·exact .inl h0
 obtain ⟨z, n1, n2⟩ := next2 hb he hb2 he2 (f1 rfl) (f2 rfl)
 cases z with
 | false => exact .inr (.inl ⟨h0, n1 K (by omega)⟩)
 | true =>
  obtain ⟨rfl, rfl, ⟨_, u2, u3⟩, v1, v2, v3⟩ := n2 rfl
  obtain ⟨k, rfl⟩ : ∃ k, K = k + 1 := ⟨K - 1, by omega⟩
  exact .inr (.inr ⟨h0, n1 _ (by omega), cons_main a0 a1 a2 a3 a4 a5 (by omega) v1 he2 u2 v2 u3 v3 hxr hyr k (by omega)⟩)
end Go.Proofs.YtielnphmcaecdaaDoor.Hsh
namespace Go.Proofs.YtielnphmcaecdaaDoor.Pure
open Go.RowKit Go.Proofs.YtielnphmcaecdaaDoor.Num Go.Proofs.YtielnphmcaecdaaDoor.Mth Go.Proofs.YtielnphmcaecdaaDoor.Hsh Go.Proofs.YtielnphmcaecdaaDoor.PAll Go.Proofs.YtielnphmcaecdaaDoorW.PrintWords Go.Proofs.YtielnphmcaecdaaDoorW.PrintLast
theorem bytes_real {l : List (List Int)} (h : l.length ≤ maxLen ∧ ∀ x ∈ l, x.length ≤ maxLen ∧ ∀ y ∈ x, (Lit.int .u8 y).wf = true) : ∀ x ∈ l, Real x := by
 intro x hx hh
 cases x with
 | nil => cases hh
 | cons y t =>
  have hy := (h.2 _ hx).2 y (List.mem_cons_self ..)
  obtain rfl : y = -1 := Option.some.inj hh
  revert hy
  decide
theorem proper (b e : Nat) (h : b ≤ e) (he : e < 18446744073709551616) (xs : List (List Int)) (hl : xs.length = (Nds 0 b e).length) (K : Nat) (hK : 9000 ≤ K) : spec_ProperRange.f K (b : Int) (e : Int) xs = some true := by
 unfold spec_ProperRange.f
 rw [if_pos (by omega), spec_Nodes.eq b e h he K hK, Option.bind_some, List.length_map, hl, beq_self_eq_true]
theorem FnThreeSizes (x0 : S24) (x1 : S34) (x2 : S34) (x3 : S34) (w0 : ((Lit.int .i64 x0.f0).wf = true) ∧ ((Lit.int .i64 x0.f1).wf = true) ∧ ((Lit.int .i64 x0.f2).wf = true) ∧ ((Lit.int .u64 x0.f3).wf = true) ∧ ((Lit.int .u64 x0.f4).wf = true) ∧ ((Lit.int .u64 x0.f5).wf = true)) (w1 : ((Lit.int .u64 x1.f0).wf = true) ∧ ((Lit.int .u64 x1.f1).wf = true) ∧ (x1.f2.length ≤ maxLen ∧ ∀ x1_f2' ∈ x1.f2, x1_f2'.length ≤ maxLen ∧ ∀ x1_f2'' ∈ x1_f2', (Lit.int .u8 x1_f2'').wf = true)) (w2 : ((Lit.int .u64 x2.f0).wf = true) ∧ ((Lit.int .u64 x2.f1).wf = true) ∧ (x2.f2.length ≤ maxLen ∧ ∀ x2_f2' ∈ x2.f2, x2_f2'.length ≤ maxLen ∧ ∀ x2_f2'' ∈ x2_f2', (Lit.int .u8 x2_f2'').wf = true)) (w3 : ((Lit.int .u64 x3.f0).wf = true) ∧ ((Lit.int .u64 x3.f1).wf = true) ∧ (x3.f2.length ≤ maxLen ∧ ∀ x3_f2' ∈ x3.f2, x3_f2'.length ≤ maxLen ∧ ∀ x3_f2'' ∈ x3_f2', (Lit.int .u8 x3_f2'').wf = true)) : ∃ k, true = true ∧ ThreePl k x0.f0 x0.f1 x0.f2 x0.f3 x0.f4 x0.f5 x1.f0 x1.f1 x1.f2 x2.f0 x2.f1 x2.f2 x3.f0 x3.f1 x3.f2 := by
 have hr1 := bytes_real w1.2.2
 have hr2 := bytes_real w2.2.2
 have hr3 := bytes_real w3.2.2
 obtain ⟨a0, a1, a2, a3, a4, a5⟩ := x0
 obtain ⟨z1, z2, xs⟩ := x1
 obtain ⟨z3, z4, ys⟩ := x2
 obtain ⟨z5, z6, ws⟩ := x3
 obtain ⟨b, rfl, hb⟩ := wf_u64 w1.1
 obtain ⟨e, rfl, he⟩ := wf_u64 w1.2.1
 obtain ⟨b2, rfl, hb2⟩ := wf_u64 w2.1
 obtain ⟨e2, rfl, he2⟩ := wf_u64 w2.2.1
 obtain ⟨b3, rfl, hb3⟩ := wf_u64 w3.1
 obtain ⟨e3, rfl, he3⟩ := wf_u64 w3.2.1
 show ∃ k, true = true ∧ ThreePl k a0 a1 a2 a3 a4 a5 (b : Int) (e : Int) xs (b2 : Int) (e2 : Int) ys (b3 : Int) (e3 : Int) ws
 dsimp only at hr1 hr2 hr3
 clear w0 w1 w2 w3
 obtain ⟨y1, k1, h1, f1⟩ := fits7 (b : Int) (e : Int) xs
 obtain ⟨y2, k2, h2, f2⟩ := fits7 (b2 : Int) (e2 : Int) ys
 obtain ⟨y3, k3, h3, f3⟩ := fits7 (b3 : Int) (e3 : Int) ws
 unfold ThreePl
 cases y1 with
 | false => exact ⟨k1, rfl, .inl (h1 k1 (Nat.le_refl _))⟩
 | true =>
 cases y2 with
 | false => exact ⟨k1 + k2, rfl, .inr (.inl ⟨h1 _ (by omega), h2 _ (by omega)⟩)⟩
 | true =>
 cases y3 with
 | false => exact ⟨k1 + k2 + k3, rfl, .inr (.inr (.inl ⟨h1 _ (by omega), h2 _ (by omega), h3 _ (by omega)⟩))⟩
 | true =>
 by_cases h0 : (e : Int) = 0
 ·exact ⟨k1 + k2 + k3, rfl, .inr (.inr (.inr ⟨h1 _ (by omega), h2 _ (by omega), h3 _ (by omega), .inl h0⟩))⟩
 by_cases h4 : (e2 : Int) = (e : Int)
 ·exact ⟨k1 + k2 + k3, rfl, .inr (.inr (.inr ⟨h1 _ (by omega), h2 _ (by omega), h3 _ (by omega), .inr (.inl ⟨h0, h4⟩)⟩))⟩
 obtain ⟨z, n1, n2⟩ := next3 hb he hb2 he2 hb3 he3 (f1 rfl) (f2 rfl) (f3 rfl)
 cases z with
 | false => exact ⟨k1 + k2 + k3 + 3000000000, rfl, .inr (.inr (.inr ⟨h1 _ (by omega), h2 _ (by omega), h3 _ (by omega), .inr (.inr (.inl ⟨h0, h4, n1 _ (by omega)⟩))⟩))⟩
 | true =>
 obtain ⟨rfl, rfl, rfl, ⟨u1, u2, u3⟩, ⟨v1, v2, v3⟩, t1, t2, t3⟩ := n2 rfl
 obtain ⟨zs, V, p1, p2, p3, p4, _⟩ := append_form a0 a1 a2 a3 a4 a5 (Nat.zero_le b2) v1 he2 (by omega) (M := 5000) (by omega) u2 v2 u3 v3 hr1 hr2 3000000000 (Nat.le_refl _)
 obtain ⟨zs', V', q1, q2, q3, q4, _⟩ := append_form a0 a1 a2 a3 a4 a5 v1 t1 he3 (by omega) (M := 5000) (by omega) v2 t2 v3 t3 hr2 hr3 3000000000 (Nat.le_refl _)
 obtain ⟨c1, C1⟩ := cons_pl a0 a1 a2 a3 a4 a5 hb he hb2 he2 xs ys hr1 hr2
 obtain ⟨c2, C2⟩ := cons_pl a0 a1 a2 a3 a4 a5 hb he2 hb3 he3 zs ws p4 hr3
 obtain ⟨c3, C3⟩ := cons_pl a0 a1 a2 a3 a4 a5 hb he hb2 he3 xs zs' hr1 q4
 obtain ⟨K, hK⟩ : ∃ K, K = k1 + k2 + k3 + c1 + c2 + c3 + 3000000001 := ⟨_, rfl⟩
 refine ⟨K, rfl, .inr (.inr (.inr ⟨h1 _ (by omega), h2 _ (by omega), h3 _ (by omega), .inr (.inr (.inr ⟨h0, h4, n1 _ (by omega), ?_⟩))⟩))⟩
 unfold ThreeMain
 exact ⟨zs, V, zs', V', lift (fun k => impl_AppendRange.mono _ _ _ _ _ _ _ _ _ _ _ _ k) p1 (by omega), lift (fun k => impl_AppendRange.mono _ _ _ _ _ _ _ _ _ _ _ _ k) q1 (by omega), C1 K (by omega), C2 K (by omega), C3 K (by omega), proper 0 b3 (Nat.zero_le _) hb3 zs p2 K (by omega), proper b2 e3 (by omega) he3 zs' q2 K (by omega)⟩
end Go.Proofs.YtielnphmcaecdaaDoor.Pure
namespace Go.Proofs.YtielnphmcaecdaaDoorW.PrintWords
open Go.RowKit Go.ChangeShapes Go.WideShapes
structure Opens {α : Type} (P : Program) (d : Kd α) (t : TypeId) (wf : α → Prop) : Prop where
 cells : P.cellsOf t = d.sz
 opens : ∀ {H : Type} {enc : TypeId × Value → H} {w : World} {base : Nat} {spare : Nat → Bool} {held : Bool} {n : Nat} {cs : List Value} {y : DataW H × List MemPlace},
  DataW.trod enc P w base spare held n t cs = some y → ∃ x, d.K w x cs ∧ wf x
theorem Opens.int {P : Program} {k : IntKind} {t : TypeId} (ht : P.underlying t = some (.int k)) (hc : P.cellsOf t = 1) : Opens P (Kd.int k) t (fun x => (Lit.int k x).wf = true) where
 cells := hc
 opens := fun h => by
  obtain ⟨n, rfl, _, hw⟩ := DataW.trod_int ht h
  exact ⟨n, rfl, hw⟩
theorem cells_of {w : World} {base : Nat} {a : Addr} {m : Nat} {cs : List Value} (h : w.cells? base a m = some cs) : cs.length = m ∧ ∀ i u, cs[i]? = some u → w.cell? (a.add i) = some u := by
 obtain ⟨_, h1, h2⟩ := World.cells?_some h
 exact ⟨h1, fun i u hu => (h2 i (by have := (List.getElem?_eq_some_iff.1 hu).1; omega)).trans hu⟩
theorem Opens.slice {α : Type} {P : Program} {d : Kd α} {t e : TypeId} {wf : α → Prop} (hd : Opens P d e wf) (ht : P.underlying t = some (.slice e)) (hc : P.cellsOf t = 1) :
 Opens P (Kd.slice e d) t (fun xs => xs.length ≤ maxLen ∧ ∀ x ∈ xs, wf x) where
 cells := hc
 opens := fun {H enc w base spare held n cs y} h => by
  rcases Deep.open_slice ht h with ⟨rfl, _⟩ | ⟨a, len, cap, m, n', D, Pl, rfl, _, hl, hm, hmm, _, hi⟩
  ·exact ⟨[], ⟨none, 0, rfl, Nat.le_refl _, rfl, by simp, fun h => absurd h (by simp)⟩, by simp, fun x hx => by simp at hx⟩
  ·have hle : len ≤ m := by rw [hmm]; split <;> omega
   have hx : ∀ i, i < len → ∃ x : α, wf x ∧ ∃ cs', d.K w x cs' ∧ w.cells? base (a.add (i * P.cellsOf e)) (P.cellsOf e) = some cs' := fun i h2 => by
    obtain ⟨cs', h3, h4⟩ := hi i (by omega)
    obtain ⟨x, h5, h6⟩ := hd.opens h4
    exact ⟨x, h6, cs', h5, h3⟩
   have hlist : ∀ j, j ≤ len → ∃ xs : List α, xs.length = j ∧ (∀ x ∈ xs, wf x) ∧ ∀ (i : Nat) p, xs[i]? = some p → ∃ cs', d.K w p cs' ∧ w.cells? base (a.add (i * P.cellsOf e)) (P.cellsOf e) = some cs' := by
    intro j
    induction j with
    | zero => exact fun _ => ⟨[], rfl, fun x hx => by simp at hx, fun i p hp => by simp at hp⟩
    | succ j ih =>
     intro hj
     obtain ⟨xs, h1, h2, h3⟩ := ih (by omega)
     obtain ⟨x, h4, cs', h5, h6⟩ := hx j (by omega)
     refine ⟨xs ++ [x], by simp [h1], fun z hz => ?_, fun i p hp => ?_⟩
     ·rcases List.mem_append.1 hz with h7 | h7
      ·exact h2 z h7
      ·rw [List.mem_singleton.1 h7]; exact h4
     ·by_cases hij : i < xs.length
      ·rw [List.getElem?_append_left hij] at hp
       exact h3 i p hp
      ·rw [List.getElem?_append_right (by omega)] at hp
       have : i = j := by
        have := (List.getElem?_eq_some_iff.1 hp).1
        simp at this; omega
       subst this
       rw [h1, Nat.sub_self] at hp
       simp at hp
       subst hp
       exact ⟨cs', h5, h6⟩
   obtain ⟨xs, h1, h2, h3⟩ := hlist len (Nat.le_refl _)
   subst h1
   refine ⟨xs, ⟨some a, cap, rfl, hl, rfl, by unfold maxLen at hm; omega, fun _ => ⟨a, rfl, fun j p hp => ?_⟩⟩, by omega, h2⟩
   obtain ⟨cs', h4, h5⟩ := h3 j p hp
   obtain ⟨h6, h7⟩ := cells_of h5
   refine ⟨cs', d.K_len h4, h4, fun i u hu => ?_⟩
   have := h7 i u hu
   rwa [Deep.add_add, hd.cells] at this
structure OpensFs {α : Type} (P : Program) (d : Kd α) (fs : List Field) (off : Nat) (wf : α → Prop) : Prop where
 opens : ∀ {H : Type} {enc : TypeId × Value → H} {w : World} {base : Nat} {spare : Nat → Bool} {held : Bool} {n : Nat} {cs : List Value},
  (∀ f ∈ fs, ∃ y, DataW.trod enc P w base spare held n f.type ((cs.drop f.offset).take (P.cellsOf f.type)) = some y) → ∃ x, d.K w x ((cs.drop off).take d.sz) ∧ wf x
theorem OpensFs.last {α : Type} {P : Program} {d : Kd α} {f : Field} {off : Nat} {wf : α → Prop} (h : Opens P d f.type wf) (ho : f.offset = off) : OpensFs P d [f] off wf where
 opens := fun hf => by
  obtain ⟨y, hy⟩ := hf f (by simp)
  rw [h.cells, ho] at hy
  exact h.opens hy
theorem OpensFs.cons {α β : Type} {P : Program} {d : Kd α} {d' : Kd β} {f : Field} {fs : List Field} {off : Nat} {wf : α → Prop} {wf' : β → Prop} (h : Opens P d f.type wf) (ho : f.offset = off) (h' : OpensFs P d' fs (off + d.sz) wf') :
 OpensFs P (Kd.pair d d') (f :: fs) off (fun x => wf x.1 ∧ wf' x.2) where
 opens := fun {H enc w base spare held n cs} hf => by
  obtain ⟨y, hy⟩ := hf f (by simp)
  rw [h.cells, ho] at hy
  obtain ⟨x, h1, h2⟩ := h.opens hy
  obtain ⟨x', h3, h4⟩ := h'.opens (cs := cs) fun g hg => hf g (by simp [hg])
  exact ⟨(x, x'), ⟨_, _, by rw [show (Kd.pair d d').sz = d.sz + d'.sz from rfl, List.take_add, List.drop_drop], h1, h3⟩, h2, h4⟩
theorem Opens.struct {α β : Type} {P : Program} {d : Kd α} {t : TypeId} {fs : Array Field} {wf : α → Prop} (ht : P.underlying t = some (.struct fs)) (h : OpensFs P d fs.toList 0 wf) (hc : P.cellsOf t = d.sz) (f : β → α) (g : α → β) (hfg : ∀ a, f (g a) = a) :
 Opens P (Kd.iso d f) t (fun x => wf (f x)) where
 cells := hc
 opens := fun {H enc w base spare held n cs y} hy => by
  obtain ⟨xs, m, _, _, hl, hn, hi⟩ := DataW.trod_struct ht hy
  obtain ⟨x, h1, h2⟩ := h.opens (cs := cs) (enc := enc) (n := m) fun f0 hf0 => by
   obtain ⟨i, hlt, rfl⟩ := List.mem_iff_getElem.1 hf0
   rw [Array.length_toList] at hlt
   have h3 := hi i fs[i] (Array.getElem?_eq_getElem hlt)
   have h4 : i < xs.length := by rw [hn]; exact hlt
   rw [List.getElem?_eq_getElem h4] at h3
   exact ⟨_, by simpa using h3⟩
  rw [List.drop_zero, List.take_of_length_le (by rw [hl, hc]; exact Nat.le_refl _)] at h1
  exact ⟨g x, by show d.K w (f (g x)) cs; rw [hfg]; exact h1, by rw [hfg]; exact h2⟩
section
variable {H : Type} {enc : TypeId × Value → H} {P : Program} {w : World} {base : Nat} {spare : Nat → Bool} {held : Bool} {r : Reach} {b0 : Nat} {t : TypeId} {v : Value} {dat : DataW H} {p : List MemPlace}
theorem Opens.arg_struct {α : Type} {d : Kd α} {fs : Array Field} {wf : α → Prop} (h : Opens P d t wf) (ht : P.underlying t = some (.struct fs)) (hv : Value.okWide P w r b0 t v) (hT : DataW.Trod enc P w base spare held t v dat p) :
 ∃ (x : α) (cs : List Value), v = .agg cs.toArray ∧ d.K w x cs ∧ wf x := by
 obtain ⟨cs, rfl, _⟩ := okWide_struct ht hv
 obtain ⟨fuel, hf⟩ := hT
 obtain ⟨x, h1, h2⟩ := h.opens hf
 exact ⟨x, cs.toList, by simp, h1, h2⟩
end
end Go.Proofs.YtielnphmcaecdaaDoorW.PrintWords
