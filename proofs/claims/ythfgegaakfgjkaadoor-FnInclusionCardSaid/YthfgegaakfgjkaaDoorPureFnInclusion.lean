import Derived.Test.YthfgegaakfgjkaaDoorPAllx10
import Derived.Test.YthfgegaakfgjkaaDoorPAllx9
import Derived.Test.YthfgegaakfgjkaaDoorPAllx6
import Derived.Test.YthfgegaakfgjkaaDoorProofOf
import Derived.Test.YthfgegaakfgjkaaDoorExtInc
/-! The law on the nodes of an audit path, over numbers and lists alone. -/
namespace Go.Proofs.YthfgegaakfgjkaaDoor.Pure
open Go.RowKit Go.Proofs.YthfgegaakfgjkaaDoor.Num Go.Proofs.YthfgegaakfgjkaaDoor.Mth Go.Proofs.YthfgegaakfgjkaaDoor.PAll Go.Proofs.YthfgegaakfgjkaaDoorW.PrintWords Go.Proofs.YthfgegaakfgjkaaDoorW.PrintLast
set_option linter.unusedVariables false
theorem ndM0 (i n : Nat) : ndM i 0 n = fork i n - 1 := by unfold ndM; rw [Nat.pow_zero, Nat.div_one]
theorem ndB0 (i n : Nat) : ndB i 0 n = i / 2 ^ ndM i 0 n * 2 ^ ndM i 0 n := by unfold ndB; rw [Nat.zero_add]
theorem ndE0 (i n : Nat) : ndE i 0 n = (i / 2 ^ ndM i 0 n + 1) * 2 ^ ndM i 0 n := by unfold ndE; rw [Nat.zero_add]
theorem ndS0 (i n : Nat) : ndS i 0 n = sibs i (ndM i 0 n) := by
  unfold ndS sibs
  apply List.map_congr_left
  intro t _
  rw [Nat.zero_add]; rfl
theorem block_le (i : Nat) {s m : Nat} (h : s ≤ m) : (i / 2 ^ s + 1) * 2 ^ s ≤ (i / 2 ^ m + 1) * 2 ^ m := by
  have e : i / 2 ^ m = i / 2 ^ s / 2 ^ (m - s) := by rw [Nat.div_div_eq_div_mul, ← Nat.pow_add, show s + (m - s) = m by omega]
  have h1 : i / 2 ^ s < (i / 2 ^ s / 2 ^ (m - s) + 1) * 2 ^ (m - s) := (Nat.div_lt_iff_lt_mul (Nat.two_pow_pos _)).1 (Nat.lt_succ_self _)
  rw [e]
  calc (i / 2 ^ s + 1) * 2 ^ s ≤ ((i / 2 ^ s / 2 ^ (m - s) + 1) * 2 ^ (m - s)) * 2 ^ s := Nat.mul_le_mul_right _ h1
    _ = (i / 2 ^ s / 2 ^ (m - s) + 1) * 2 ^ m := by rw [Nat.mul_assoc, ← Nat.pow_add, show m - s + s = m by omega]
theorem po_sibs {L : List S26} (hL : L.length < 1099511627776) (i m K : Nat) (hE : (i / 2 ^ m + 1) * 2 ^ m < 18446744073709551616) (hK : 65 ≤ K) (hm : m ≤ 64) (hs : ∀ t, t < m → L[t]? = some (prt (lvs (sib i t)))) :
    ∀ t, t ≤ m → spec_proofOf.l0 (K + m) L (L.length : Int) 0 (i : Int) ((i + 1 : Nat) : Int) [] 0 0 0 0 = spec_proofOf.l0 (K + (m - t)) L (L.length : Int) (t : Int) ((i / 2 ^ t * 2 ^ t : Nat) : Int) (((i / 2 ^ t + 1) * 2 ^ t : Nat) : Int) ((sibs i t).map inode) 0 0 0 0 := by
  intro t
  induction t with
  | zero =>
    intro _
    rw [Nat.pow_zero, Nat.div_one, Nat.mul_one, Nat.mul_one, Nat.sub_zero]; rfl
  | succ t ih =>
    intro ht
    have hj := hs t (by omega)
    have hlen : ((sibs i t).map inode).length = t := by unfold sibs; simp
    have hx : i / 2 ^ (t + 1) = i / 2 ^ t / 2 := by rw [Nat.pow_succ, ← Nat.div_div_eq_div_mul]
    have hbl := block_le i (show t + 1 ≤ m from ht)
    have e1 : i / 2 ^ (t + 1) * 2 ^ (t + 1) = 2 * (i / 2 ^ t / 2) * 2 ^ t := by rw [hx, Nat.pow_succ]; ac_rfl
    have e2 : (i / 2 ^ (t + 1) + 1) * 2 ^ (t + 1) = (2 * (i / 2 ^ t / 2) + 2) * 2 ^ t := by
      rw [hx, Nat.pow_succ, show 2 * (i / 2 ^ t / 2) + 2 = 2 * (i / 2 ^ t / 2 + 1) by omega]; ac_rfl
    rw [e2] at hbl
    rw [ih (by omega), show K + (m - t) = (K + (m - (t + 1))) + 1 by omega, sibs_succ, List.map_append, e1, e2]
    unfold sib at hj ⊢
    generalize i / 2 ^ t = x at hj hbl ⊢
    by_cases hev : x % 2 = 0
    · rw [if_pos hev] at hj ⊢
      have h2 : 2 * (x / 2) = x := by omega
      rw [h2] at hbl ⊢
      have := po_right hL hj (Nat.lt_of_le_of_lt hbl hE) (by omega) ((sibs i t).map inode) 0 0 0 0 (K + (m - (t + 1))) (by omega) (by omega)
      rw [show x + 1 - 1 = x by omega] at this
      exact this
    · rw [if_neg hev] at hj ⊢
      have h2 : 2 * (x / 2) = x - 1 := by omega
      rw [h2] at hbl ⊢
      have hle : (x - 1 + 1) * 2 ^ t ≤ (x - 1 + 2) * 2 ^ t := Nat.mul_le_mul_right _ (by omega)
      have := po_left hL hj (by omega) (((x + 1) * 2 ^ t : Nat) : Int) ((sibs i t).map inode) 0 0 0 0 (K + (m - (t + 1))) (by omega) (by omega)
      rw [show x - 1 + 1 = x by omega] at this
      rw [show x - 1 + 2 = x + 1 by omega]
      exact this
theorem proofOf_inc (i n : Nat) (hi : i < n) (hn : n < 18446744073709551616) (k : Nat) (hk : 20000 ≤ k) :
    spec_proofOf.f k (i : Int) ((i + 1 : Nat) : Int) ((path i 0 n).map prt) = some ((incIds i n).map inode, 0, 0, (incBegin i n : Int), (incEnd i n : Int)) := by
  have h1 : i < n / 2 ^ 0 := by rw [Nat.pow_zero, Nat.div_one]; exact hi
  have hmm := ndM_le i 0 n (by omega) h1 hn
  have hEn := (ndE_le i 0 n h1).2
  have hBn := ndB_lt i 0 n h1
  have hPP := (path_parts i n n 64 0 (by omega) (by simp) (by omega) (Nat.zero_le _) hi).2
  rw [← ndM0] at hPP
  have hEm : n < (i / 2 ^ ndM i 0 n + 1 + 1) * 2 ^ ndM i 0 n := by
    have : n < (n / 2 ^ ndM i 0 n + 1) * 2 ^ ndM i 0 n := (Nat.div_lt_iff_lt_mul (Nat.two_pow_pos (ndM i 0 n))).1 (Nat.lt_succ_self _)
    have hf : i / 2 ^ ndM i 0 n + 1 = n / 2 ^ ndM i 0 n := by rw [ndM0]; exact fork_below hi
    rw [hf]; exact this
  have lenR : (Nds 0 (ndE i 0 n) n).length ≤ 128 := Nds_len 0 _ _ 64 hn
  have lenL : (Nds 0 0 (ndB i 0 n)).length ≤ 128 := Nds_len 0 _ _ 64 (by omega)
  unfold incIds incBegin incEnd
  rw [ndS0]
  have eB := ndB0 i n
  have eE := ndE0 i n
  rw [eE] at hEn lenR ⊢
  rw [eB] at hBn lenL ⊢
  generalize ndM i 0 n = m at hmm hEn hBn hPP hEm lenR lenL ⊢
  clear eB eE
  have hF : 1 ≤ i / 2 ^ m + 1 := Nat.le_add_left 1 _
  obtain ⟨G, hG⟩ : ∃ G, G = Nds 0 0 (i / 2 ^ m * 2 ^ m) := ⟨_, rfl⟩
  have lenS : ((sibs i m).map inode).length = m := by unfold sibs; simp
  have lenS2 : ((sibs i m).map fun p => prt (lvs p)).length = m := by unfold sibs; simp
  have hsib : ∀ t, t < m → ((sibs i m).map fun p => prt (lvs p))[t]? = some (prt (lvs (sib i t))) := fun t ht => by
    unfold sibs; simp [ht]
  unfold spec_proofOf.f
  by_cases hR : (i / 2 ^ m + 1) * 2 ^ m < n
  · rw [if_pos hR] at hPP
    have hL0 : (path i 0 n).map prt = ((sibs i m).map fun p => prt (lvs p)) ++ (prt ((i / 2 ^ m + 1) * 2 ^ m, n) :: (G.reverse.map fun p => prt (lvs p))) := by
      rw [hPP, hG]; simp; rfl
    generalize (path i 0 n).map prt = L at hL0 ⊢
    have hLlen : L.length = m + 1 + G.length := by rw [hL0, List.length_append, lenS2, List.length_cons, List.length_map, List.length_reverse]; omega
    rw [← hG] at lenL
    have hL : L.length < 1099511627776 := by omega
    obtain ⟨K, hK⟩ : ∃ K, K = k - 1 - G.length - (Nds 0 ((i / 2 ^ m + 1) * 2 ^ m) n).length - 2 - m := ⟨_, rfl⟩
    have s1 := po_sibs hL i m (K + 1 + G.length + (Nds 0 ((i / 2 ^ m + 1) * 2 ^ m) n).length + 1 + 1) (by omega) (by omega) (by omega) (fun t ht => by rw [hL0, List.getElem?_append_left (by omega)]; exact hsib t ht) m (Nat.le_refl _)
    have s2 := po_short hL (j := m) (l := m) (c := i / 2 ^ m + 1) (n := n) (by rw [hL0, List.getElem?_append_right (by omega), lenS2, Nat.sub_self]; rfl) hR hEm hn hF ((sibs i m).map inode) 0 0 0 0 (K + 1 + G.length) (by omega) (by omega)
    have s3 := po_lefts hL (n : Int) 0 0 ((((sibs i m).map inode).length : Nat) : Int) ((((sibs i m).map inode).length + (Nds 0 ((i / 2 ^ m + 1) * 2 ^ m) n).length : Nat) : Int) G.length 0 (i / 2 ^ m * 2 ^ m) (m + 1) (K + 1) ((sibs i m).map inode ++ ((Nds 0 ((i / 2 ^ m + 1) * 2 ^ m) n).map inode).reverse) (by rw [hG]) (Nat.zero_le _) (by omega) (by omega) (by rw [List.length_append, List.length_reverse, lenS, List.length_map]; omega) (fun s hs => by
      rw [hL0, List.getElem?_append_right (by omega), lenS2, show m + 1 + s - m = s + 1 by omega, List.getElem?_cons_succ, hG])
    have s4 : ∀ out : List S36, ∀ pb pe a a' b e : Int, spec_proofOf.l0 (K + 1) L (L.length : Int) ((m + 1 + G.length : Nat) : Int) pb pe out a a' b e = some (out, a, a', b, e) := fun out pb pe a a' b e => by
      rw [spec_proofOf.l0, if_neg (by omega)]
    simp only [Nat.sub_self, Nat.add_zero] at s1
    rw [show i / 2 ^ m + 1 - 1 = i / 2 ^ m by omega] at s2
    rw [show k = K + 1 + G.length + (Nds 0 ((i / 2 ^ m + 1) * 2 ^ m) n).length + 1 + 1 + m by omega, s1, s2, s3, s4, if_neg (by have := Nds_nonempty (l := 0) hR; omega), if_neg (by have := Nds_nonempty (l := 0) hR; omega), lenS, List.map_append, List.map_append, List.map_reverse, List.map_reverse, ← hG]
  · rw [if_neg hR] at hPP
    have hL0 : (path i 0 n).map prt = ((sibs i m).map fun p => prt (lvs p)) ++ (G.reverse.map fun p => prt (lvs p)) := by
      rw [hPP, hG]; simp; rfl
    generalize (path i 0 n).map prt = L at hL0 ⊢
    have hLlen : L.length = m + G.length := by rw [hL0, List.length_append, lenS2, List.length_map, List.length_reverse]
    rw [← hG] at lenL
    have hL : L.length < 1099511627776 := by omega
    obtain ⟨K, hK⟩ : ∃ K, K = k - 1 - G.length - m := ⟨_, rfl⟩
    have s1 := po_sibs hL i m (K + 1 + G.length) (by omega) (by omega) (by omega) (fun t ht => by rw [hL0, List.getElem?_append_left (by omega)]; exact hsib t ht) m (Nat.le_refl _)
    have s3 := po_lefts hL (((i / 2 ^ m + 1) * 2 ^ m : Nat) : Int) 0 0 0 0 G.length 0 (i / 2 ^ m * 2 ^ m) m (K + 1) ((sibs i m).map inode) (by rw [hG]) (Nat.zero_le _) (by omega) (by omega) (by rw [lenS]; omega) (fun s hs => by
      rw [hL0, List.getElem?_append_right (by omega), lenS2, show m + s - m = s by omega, hG])
    have s4 : ∀ out : List S36, ∀ pb pe a a' b e : Int, spec_proofOf.l0 (K + 1) L (L.length : Int) ((m + G.length : Nat) : Int) pb pe out a a' b e = some (out, a, a', b, e) := fun out pb pe a a' b e => by
      rw [spec_proofOf.l0, if_neg (by omega)]
    simp only [Nat.sub_self, Nat.add_zero] at s1
    rw [show k = K + 1 + G.length + m by omega, s1, s3, s4, Nds_empty (show n ≤ (i / 2 ^ m + 1) * 2 ^ m by omega)]
    simp
theorem fork_loop (i n : Nat) (hi : i < n) (hn : n < 18446744073709551616) (d : Nat) : ∀ z k, z + d = fork i n - 1 → d < k → spec_fork.l0 k (n : Int) (z : Int) ((i / 2 ^ z : Nat) : Int) = some (((fork i n - 1 : Nat) : Int), ((n / 2 ^ (fork i n - 1) : Nat) : Int)) := by
  have hf := fork_64 (Nat.lt_trans hi hn) hn
  have hp := fork_pos hi
  have h2 : ∀ x z : Nat, ((x / 2 ^ z : Nat) : Int) / 2 = ((x / 2 ^ (z + 1) : Nat) : Int) := fun x z => by rw [Nat.pow_succ, ← Nat.div_div_eq_div_mul]; omega
  induction d with
  | zero =>
    intro z k hz hk
    obtain ⟨k, rfl⟩ : ∃ m, k = m + 1 := ⟨k - 1, by omega⟩
    have e : i / 2 ^ (z + 1) = n / 2 ^ (z + 1) := fork_le.1 (by omega)
    rw [spec_fork.l0, if_pos (Int.natCast_nonneg _), shr64' _ _ hn, h2, h2, if_pos (by rw [e]), show fork i n - 1 = z by omega]
  | succ d ih =>
    intro z k hz hk
    obtain ⟨k, rfl⟩ : ∃ m, k = m + 1 := ⟨k - 1, by omega⟩
    have e : i / 2 ^ (z + 1) ≠ n / 2 ^ (z + 1) := fun h => by have := fork_le.2 h; omega
    rw [spec_fork.l0, if_pos (Int.natCast_nonneg _), shr64' _ _ hn, h2, h2, if_neg (by omega), show IntKind.u64.wrap ((z : Int) + 1) = ((z + 1 : Nat) : Int) from u64add (b := 1) (by omega)]
    exact ih (z + 1) k (by omega) (by omega)
theorem same_loop (l : List S36) (hl : l.length < 1099511627776) (d : Nat) : ∀ j k, j + d = l.length → d < k → spec_SameNodes.l0 k l l (l.length : Int) (j : Int) = some true := by
  induction d with
  | zero =>
    intro j k hj hk
    obtain ⟨k, rfl⟩ : ∃ m, k = m + 1 := ⟨k - 1, by omega⟩
    rw [spec_SameNodes.l0, if_neg (by omega)]
  | succ d ih =>
    intro j k hj hk
    obtain ⟨k, rfl⟩ : ∃ m, k = m + 1 := ⟨k - 1, by omega⟩
    rw [spec_SameNodes.l0, if_pos (by omega), if_pos (Int.natCast_nonneg _), if_pos (by omega), if_pos (by omega), if_neg (by simp), show wrap64 ((j : Int) + 1) = ((j + 1 : Nat) : Int) from w64_add j 1 (by omega)]
    exact ih (j + 1) k (by omega) (by omega)
theorem FnInclusion (a0 : Int) (a1 : Int) (w0 : (Lit.int .u64 a0).wf = true) (w1 : (Lit.int .u64 a1).wf = true) : ∃ k, laws_FnInclusion.f k a0 a1 = some true := by
  obtain ⟨i, rfl, hi64⟩ := wf_u64 w0
  obtain ⟨n, rfl, hn⟩ := wf_u64 w1
  clear w0 w1
  by_cases hc : n ≤ i
  · refine ⟨1, ?_⟩
    unfold laws_FnInclusion.f impl_Inclusion.f
    rw [if_pos (by omega), Option.bind_some, if_pos (by omega)]
    rfl
  · have hi : i < n := by omega
    refine ⟨n + 30000, ?_⟩
    have hlen := incIds_len i n hi hn
    have hf : impl_Inclusion.f (n + 30000) (i : Int) (n : Int) = some ((incIds i n).map inode, ((ndEph i 0 n).1 : Int), ((ndEph i 0 n).2 : Int), (incBegin i n : Int), (incEnd i n : Int), true) := by
      unfold impl_Inclusion.f
      rw [if_neg (by omega), if_pos ⟨by omega, by omega⟩, Int.toNat_natCast, Int.toNat_natCast]
    have hm : ndM i 0 n = fork i n - 1 := ndM0 i n
    have heph : ndEph i 0 n = (fork i n - 1, n / 2 ^ (fork i n - 1)) := by
      unfold ndEph sib
      rw [hm, Nat.zero_add]
      have hb : i / 2 ^ (fork i n - 1) + 1 = n / 2 ^ (fork i n - 1) := fork_below hi
      have hq : i / 2 ^ (fork i n - 1 + 1) = n / 2 ^ (fork i n - 1 + 1) := fork_le.1 (by omega)
      rw [Nat.pow_succ, ← Nat.div_div_eq_div_mul, ← Nat.div_div_eq_div_mul] at hq
      rw [if_pos (by omega), hb]
    have hs : spec_InclusionProof.f (n + 30000) (i : Int) (n : Int) = some ((incIds i n).map inode, ((ndEph i 0 n).1 : Int), ((ndEph i 0 n).2 : Int), (incBegin i n : Int), (incEnd i n : Int)) := by
      unfold spec_InclusionProof.f
      rw [spec_PathParts.eq i n (by omega) hn (n + 30000) (by omega), Option.bind_some, show IntKind.u64.wrap ((i : Int) + 1) = ((i + 1 : Nat) : Int) from u64add (b := 1) (by omega), proofOf_inc i n hi hn (n + 30000) (by omega), Option.bind_some]
      have hk := fork_loop i n hi hn (fork i n - 1) 0 (n + 30000) (by omega) (by have := fork_64 hi64 hn; omega)
      rw [Nat.pow_zero, Nat.div_one] at hk
      rw [show spec_fork.f (n + 30000) 0 (i : Int) (n : Int) = spec_fork.l0 (n + 30000) (n : Int) ((0 : Nat) : Int) (i : Int) from rfl, hk, Option.bind_some, heph]
    have hsn : spec_SameNodes.f (n + 30000) ((incIds i n).map inode) ((incIds i n).map inode) = some true := by
      unfold spec_SameNodes.f
      rw [if_pos rfl]
      exact same_loop _ (by rw [List.length_map]; omega) _ 0 _ (Nat.zero_add _) (by rw [List.length_map]; omega)
    unfold laws_FnInclusion.f
    rw [hf, Option.bind_some, if_neg (by omega), if_pos rfl, hs, Option.bind_some]
    unfold spec_SameProof.f
    rw [hsn, Option.bind_some, if_pos rfl, if_pos (by simp), if_pos rfl]
    simp
end Go.Proofs.YthfgegaakfgjkaaDoor.Pure
