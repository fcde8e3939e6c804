-- Written by a program of this session (wip/tools)
import Derived.Test.YtielnphmcaecdaaDoorQCHProofOf
import Derived.Test.YtielnphmcaecdaaDoorQCHConsPath
import Derived.Test.YtielnphmcaecdaaDoorQCHExtCons
namespace Go.Proofs.YtielnphmcaecdaaDoor.PAll
open Go.RowKit Go.Proofs.YtielnphmcaecdaaDoor.Num Go.Proofs.YtielnphmcaecdaaDoor.Mth Go.Proofs.YtielnphmcaecdaaDoorW.PrintWords Go.Proofs.YtielnphmcaecdaaDoorW.PrintLast
set_option linter.unusedVariables false
theorem blk_le (i l : Nat) {s m : Nat} (h : s ≤ m) : (i / 2 ^ s + 1) * 2 ^ (l + s) ≤ (i / 2 ^ m + 1) * 2 ^ (l + m) := by
  have e : i / 2 ^ m = i / 2 ^ s / 2 ^ (m - s) := by rw [Nat.div_div_eq_div_mul, ← Nat.pow_add, show s + (m - s) = m by omega]
  have h1 : i / 2 ^ s < (i / 2 ^ s / 2 ^ (m - s) + 1) * 2 ^ (m - s) := (Nat.div_lt_iff_lt_mul (Nat.two_pow_pos _)).1 (Nat.lt_succ_self _)
  rw [e]
  calc (i / 2 ^ s + 1) * 2 ^ (l + s) ≤ ((i / 2 ^ s / 2 ^ (m - s) + 1) * 2 ^ (m - s)) * 2 ^ (l + s) := Nat.mul_le_mul_right _ h1
    _ = (i / 2 ^ s / 2 ^ (m - s) + 1) * 2 ^ (l + m) := by rw [Nat.mul_assoc, ← Nat.pow_add, show m - s + (l + s) = l + m by omega]
def upN (c l m : Nat) : List (Nat × Nat) := (List.range m).map fun t => (l + t, (sib c t).2)
theorem upN_succ (c l m : Nat) : upN c l (m + 1) = upN c l m ++ [(l + m, (sib c m).2)] := by unfold upN; rw [List.range_succ, List.map_append]; rfl
theorem upN_len (c l m : Nat) : (upN c l m).length = m := by unfold upN; simp
theorem po_up {L : List S53} (hL : L.length < 1099511627776) (c l m K : Nat) (hE : (c / 2 ^ m + 1) * 2 ^ (l + m) < 18446744073709551616) (hK : 65 ≤ K) (hm : m ≤ 64) (hs : ∀ t, t < m → L[t]? = some (prt (lvs (l + t, (sib c t).2)))) :
    ∀ t, t ≤ m → spec_proofOf.l0 (K + m) L (L.length : Int) 0 ((c * 2 ^ l : Nat) : Int) (((c + 1) * 2 ^ l : Nat) : Int) [] 0 0 0 0 = spec_proofOf.l0 (K + (m - t)) L (L.length : Int) (t : Int) ((c / 2 ^ t * 2 ^ (l + t) : Nat) : Int) (((c / 2 ^ t + 1) * 2 ^ (l + t) : Nat) : Int) ((upN c l t).map inode) 0 0 0 0 := by
  intro t
  induction t with
  | zero =>
    intro _
    rw [Nat.pow_zero, Nat.div_one, Nat.add_zero, Nat.sub_zero]; rfl
  | succ t ih =>
    intro ht
    have hj := hs t (by omega)
    have hlen : ((upN c l t).map inode).length = t := by rw [List.length_map, upN_len]
    have hx : c / 2 ^ (t + 1) = c / 2 ^ t / 2 := by rw [Nat.pow_succ, ← Nat.div_div_eq_div_mul]
    have hbl := blk_le c l (show t + 1 ≤ m from ht)
    have e1 : c / 2 ^ (t + 1) * 2 ^ (l + (t + 1)) = 2 * (c / 2 ^ t / 2) * 2 ^ (l + t) := by rw [hx, ← Nat.add_assoc, Nat.pow_succ]; ac_rfl
    have e2 : (c / 2 ^ (t + 1) + 1) * 2 ^ (l + (t + 1)) = (2 * (c / 2 ^ t / 2) + 2) * 2 ^ (l + t) := by
      rw [hx, ← Nat.add_assoc, Nat.pow_succ, show 2 * (c / 2 ^ t / 2) + 2 = 2 * (c / 2 ^ t / 2 + 1) by omega]; ac_rfl
    rw [e2] at hbl
    rw [ih (by omega), show K + (m - t) = (K + (m - (t + 1))) + 1 by omega, upN_succ, List.map_append, e1, e2]
    unfold sib at hj ⊢
    dsimp only at hj ⊢
    generalize c / 2 ^ t = x at hj hbl ⊢
    by_cases hev : x % 2 = 0
    · rw [if_pos hev] at hj ⊢
      have h2 : 2 * (x / 2) = x := by omega
      rw [h2] at hbl ⊢
      have := po_right hL hj (Nat.lt_of_le_of_lt hbl hE) (by omega) ((upN c l t).map inode) 0 0 0 0 (K + (m - (t + 1))) (by omega) (by omega)
      rw [show x + 1 - 1 = x by omega] at this
      exact this
    · rw [if_neg hev] at hj ⊢
      have h2 : 2 * (x / 2) = x - 1 := by omega
      rw [h2] at hbl ⊢
      have hle : (x - 1 + 1) * 2 ^ (l + t) ≤ (x - 1 + 2) * 2 ^ (l + t) := Nat.mul_le_mul_right _ (by omega)
      have := po_left hL hj (by omega) (((x + 1) * 2 ^ (l + t) : Nat) : Int) ((upN c l t).map inode) 0 0 0 0 (K + (m - (t + 1))) (by omega) (by omega)
      rw [show x - 1 + 1 = x by omega] at this
      rw [show x - 1 + 2 = x + 1 by omega]
      exact this
def nParts (c l n : Nat) : List (Nat × Nat) := (ndS c l n).map lvs ++ (if ndE c l n < n then [(ndE c l n, n)] else []) ++ (Nds 0 0 (ndB c l n)).reverse.map lvs
theorem proofOf_node (c l n : Nat) (hl : l ≤ 63) (hi : c < n / 2 ^ l) (hn : n < 18446744073709551616) (k : Nat) (hk : 20000 ≤ k) :
    spec_proofOf.f k ((c * 2 ^ l : Nat) : Int) (((c + 1) * 2 ^ l : Nat) : Int) ((nParts c l n).map prt) = some ((skIds c l n).map inode, 0, 0, (skBegin c l n : Int), (skEnd c l n : Int)) := by
  have hmm := ndM_le c l n hl hi hn
  obtain ⟨hE1, hEn⟩ := ndE_le c l n hi
  have hBn := ndB_lt c l n hi
  have hEm : n < (c / 2 ^ ndM c l n + 1 + 1) * 2 ^ (l + ndM c l n) := by
    have h1 : n < (n / 2 ^ (l + ndM c l n) + 1) * 2 ^ (l + ndM c l n) := (Nat.div_lt_iff_lt_mul (Nat.two_pow_pos (l + ndM c l n))).1 (Nat.lt_succ_self _)
    have h2 : c / 2 ^ ndM c l n + 1 = n / 2 ^ (l + ndM c l n) := by
      have := hE1; unfold ndE at this
      exact Nat.eq_of_mul_eq_mul_right (Nat.two_pow_pos _) this
    rw [h2]; exact h1
  have lenR : (Nds 0 (ndE c l n) n).length ≤ 128 := Nds_len 0 _ _ 64 hn
  have lenL : (Nds 0 0 (ndB c l n)).length ≤ 128 := Nds_len 0 _ _ 64 (by omega)
  unfold nParts skIds skBegin skEnd
  have eS : ndS c l n = upN c l (ndM c l n) := rfl
  have eB : ndB c l n = c / 2 ^ ndM c l n * 2 ^ (l + ndM c l n) := rfl
  have eE : ndE c l n = (c / 2 ^ ndM c l n + 1) * 2 ^ (l + ndM c l n) := rfl
  rw [eS]
  rw [eE] at hEn lenR ⊢
  rw [eB] at hBn lenL ⊢
  generalize ndM c l n = m at hmm hEn hBn hEm lenR lenL ⊢
  clear eB eE eS hE1
  have hF : 1 ≤ c / 2 ^ m + 1 := Nat.le_add_left 1 _
  obtain ⟨G, hG⟩ : ∃ G, G = Nds 0 0 (c / 2 ^ m * 2 ^ (l + m)) := ⟨_, rfl⟩
  have lenS : ((upN c l m).map inode).length = m := by rw [List.length_map, upN_len]
  have lenS2 : ((upN c l m).map fun p => prt (lvs p)).length = m := by rw [List.length_map, upN_len]
  have hsib : ∀ t, t < m → ((upN c l m).map fun p => prt (lvs p))[t]? = some (prt (lvs (l + t, (sib c t).2))) := fun t ht => by
    unfold upN; simp [ht]
  unfold spec_proofOf.f
  by_cases hR : (c / 2 ^ m + 1) * 2 ^ (l + m) < n
  · rw [if_pos hR]
    have hL0 : (((upN c l m).map lvs ++ [((c / 2 ^ m + 1) * 2 ^ (l + m), n)] ++ (Nds 0 0 (c / 2 ^ m * 2 ^ (l + m))).reverse.map lvs).map prt) = ((upN c l m).map fun p => prt (lvs p)) ++ (prt ((c / 2 ^ m + 1) * 2 ^ (l + m), n) :: (G.reverse.map fun p => prt (lvs p))) := by
      rw [hG]; simp; rfl
    generalize ((upN c l m).map lvs ++ [((c / 2 ^ m + 1) * 2 ^ (l + m), n)] ++ (Nds 0 0 (c / 2 ^ m * 2 ^ (l + m))).reverse.map lvs).map prt = L at hL0 ⊢
    have hLlen : L.length = m + 1 + G.length := by rw [hL0, List.length_append, lenS2, List.length_cons, List.length_map, List.length_reverse]; omega
    rw [← hG] at lenL
    have hL : L.length < 1099511627776 := by omega
    obtain ⟨K, hK⟩ : ∃ K, K = k - 1 - G.length - (Nds 0 ((c / 2 ^ m + 1) * 2 ^ (l + m)) n).length - 2 - m := ⟨_, rfl⟩
    have s1 := po_up hL c l m (K + 1 + G.length + (Nds 0 ((c / 2 ^ m + 1) * 2 ^ (l + m)) n).length + 1 + 1) (by omega) (by omega) (by omega) (fun t ht => by rw [hL0, List.getElem?_append_left (by omega)]; exact hsib t ht) m (Nat.le_refl _)
    have s2 := po_short hL (j := m) (l := l + m) (c := c / 2 ^ m + 1) (n := n) (by rw [hL0, List.getElem?_append_right (by omega), lenS2, Nat.sub_self]; rfl) hR hEm hn hF ((upN c l m).map inode) 0 0 0 0 (K + 1 + G.length) (by omega) (by omega)
    have s3 := po_lefts hL (n : Int) 0 0 ((((upN c l m).map inode).length : Nat) : Int) ((((upN c l m).map inode).length + (Nds 0 ((c / 2 ^ m + 1) * 2 ^ (l + m)) n).length : Nat) : Int) G.length 0 (c / 2 ^ m * 2 ^ (l + m)) (m + 1) (K + 1) ((upN c l m).map inode ++ ((Nds 0 ((c / 2 ^ m + 1) * 2 ^ (l + m)) n).map inode).reverse) (by rw [hG]) (Nat.zero_le _) (by omega) (by omega) (by rw [List.length_append, List.length_reverse, lenS, List.length_map]; omega) (fun s hs => by
      rw [hL0, List.getElem?_append_right (by omega), lenS2, show m + 1 + s - m = s + 1 by omega, List.getElem?_cons_succ, hG])
    have s4 : ∀ out : List S49, ∀ pb pe a a' b e : Int, spec_proofOf.l0 (K + 1) L (L.length : Int) ((m + 1 + G.length : Nat) : Int) pb pe out a a' b e = some (out, a, a', b, e) := fun out pb pe a a' b e => by
      rw [spec_proofOf.l0, if_neg (by omega)]
    simp only [Nat.sub_self, Nat.add_zero] at s1
    rw [show c / 2 ^ m + 1 - 1 = c / 2 ^ m by omega] at s2
    rw [show k = K + 1 + G.length + (Nds 0 ((c / 2 ^ m + 1) * 2 ^ (l + m)) n).length + 1 + 1 + m by omega, s1, s2, s3, s4, if_neg (by have := Nds_nonempty (l := 0) hR; omega), if_neg (by have := Nds_nonempty (l := 0) hR; omega), lenS, List.map_append, List.map_append, List.map_reverse, List.map_reverse, ← hG]
  · rw [if_neg hR, List.append_nil]
    have hL0 : (((upN c l m).map lvs ++ (Nds 0 0 (c / 2 ^ m * 2 ^ (l + m))).reverse.map lvs).map prt) = ((upN c l m).map fun p => prt (lvs p)) ++ (G.reverse.map fun p => prt (lvs p)) := by
      rw [hG]; simp; rfl
    generalize ((upN c l m).map lvs ++ (Nds 0 0 (c / 2 ^ m * 2 ^ (l + m))).reverse.map lvs).map prt = L at hL0 ⊢
    have hLlen : L.length = m + G.length := by rw [hL0, List.length_append, lenS2, List.length_map, List.length_reverse]
    rw [← hG] at lenL
    have hL : L.length < 1099511627776 := by omega
    obtain ⟨K, hK⟩ : ∃ K, K = k - 1 - G.length - m := ⟨_, rfl⟩
    have s1 := po_up hL c l m (K + 1 + G.length) (by omega) (by omega) (by omega) (fun t ht => by rw [hL0, List.getElem?_append_left (by omega)]; exact hsib t ht) m (Nat.le_refl _)
    have s3 := po_lefts hL (((c / 2 ^ m + 1) * 2 ^ (l + m) : Nat) : Int) 0 0 0 0 G.length 0 (c / 2 ^ m * 2 ^ (l + m)) m (K + 1) ((upN c l m).map inode) (by rw [hG]) (Nat.zero_le _) (by omega) (by omega) (by rw [lenS]; omega) (fun s hs => by
      rw [hL0, List.getElem?_append_right (by omega), lenS2, show m + s - m = s by omega, hG])
    have s4 : ∀ out : List S49, ∀ pb pe a a' b e : Int, spec_proofOf.l0 (K + 1) L (L.length : Int) ((m + G.length : Nat) : Int) pb pe out a a' b e = some (out, a, a', b, e) := fun out pb pe a a' b e => by
      rw [spec_proofOf.l0, if_neg (by omega)]
    simp only [Nat.sub_self, Nat.add_zero] at s1
    rw [show k = K + 1 + G.length + m by omega, s1, s3, s4, Nds_empty (show n ≤ (c / 2 ^ m + 1) * 2 ^ (l + m) by omega)]
    simp
theorem path_node (l M s n : Nat) (hM : M % 2 = 1) (hs : s = 2 ^ l * M) (hlt : s < n) : (path (s - 1) 0 n).drop l = nParts (M - 1) l n ∧ l ≤ (path (s - 1) 0 n).length ∧ cpath s 0 n true = (if M = 1 then [] else [lvs (l, M - 1)]) ++ nParts (M - 1) l n := by
  have hp := Nat.two_pow_pos l
  have hMp : 0 < M := by omega
  have hs0 : 0 < s := by rw [hs]; exact Nat.mul_pos hp hMp
  have hdiv : ∀ t, (s - 1) / 2 ^ (l + t) = (M - 1) / 2 ^ t := by
    intro t
    have h0 : (s - 1) / 2 ^ l = M - 1 := by
      rw [hs]
      apply Nat.div_eq_of_lt_le
      · have : 2 ^ l * M = (M - 1) * 2 ^ l + 2 ^ l := by rw [Nat.mul_comm, ← Nat.succ_mul]; congr 1; omega
        omega
      · have : 2 ^ l * M = (M - 1 + 1) * 2 ^ l := by rw [Nat.mul_comm]; congr 1; omega
        have : 0 < 2 ^ l * M := Nat.mul_pos hp hMp
        show 2 ^ l * M - 1 < (M - 1).succ * 2 ^ l
        rw [show (M - 1).succ = M - 1 + 1 from rfl]
        omega
    rw [Nat.pow_add, ← Nat.div_div_eq_div_mul, h0]
  have hndiv : ∀ t, n / 2 ^ (l + t) = n / 2 ^ l / 2 ^ t := fun t => by rw [Nat.pow_add, ← Nat.div_div_eq_div_mul]
  have hMn : M - 1 < n / 2 ^ l := by
    have : M ≤ n / 2 ^ l := (Nat.le_div_iff_mul_le hp).2 (by rw [Nat.mul_comm, ← hs]; omega)
    omega
  have hff : fork (s - 1) n = l + fork (M - 1) (n / 2 ^ l) := by
    obtain ⟨j, hj⟩ : ∃ j, fork (M - 1) (n / 2 ^ l) = j + 1 := ⟨_, (Nat.succ_pred_eq_of_pos (fork_pos hMn)).symm⟩
    have a : fork (s - 1) n ≤ l + (j + 1) := fork_le.2 (by rw [hdiv, hndiv]; exact fork_le.1 (by omega))
    have b : ¬ fork (s - 1) n ≤ l + j := fun h => by
      have h1 := fork_le.1 h
      rw [hdiv, hndiv] at h1
      have := fork_le.2 h1
      omega
    omega
  have hm : fork (s - 1) n - 1 = l + ndM (M - 1) l n := by
    have := fork_pos hMn
    unfold ndM; omega
  have hPP := (path_parts (s - 1) n n n 0 (by omega) (by simp) (by have := @Nat.lt_two_pow_self n; omega) (Nat.zero_le _) (by omega)).2
  rw [hm, hdiv] at hPP
  have hC := cpath_parts hM hs n n n 0 true (by omega) (by simp) (by have := @Nat.lt_two_pow_self n; omega) hs0 hlt
  have hpath : (path (s - 1) 0 n).drop l = nParts (M - 1) l n := by
    rw [hPP, List.append_assoc, drop_snoc _ (by rw [List.length_map]; unfold sibs; simp), ← List.map_drop, sibs_drop]
    unfold nParts
    rw [List.append_assoc]
    congr 1
    congr 1
    unfold upS ndS sib
    apply List.map_congr_left
    intro t _
    rw [hdiv]
  refine ⟨hpath, hC.2, ?_⟩
  rw [hC.1, hpath]
  congr 1
  have hse : s = (M - 1 + 1) * 2 ^ l := by rw [hs, Nat.mul_comm, show M - 1 + 1 = M by omega]
  by_cases h1 : M = 1
  · rw [if_pos h1, if_pos ⟨rfl, by rw [hs, h1]; omega⟩]
  · rw [if_neg h1, if_neg (by
      rintro ⟨_, h⟩
      rw [Nat.zero_add] at h
      rw [hs] at h
      have : M = 1 := Nat.eq_of_mul_eq_mul_left hp (by rw [h, Nat.mul_one])
      exact h1 this)]
    unfold lvs
    dsimp only
    rw [← hse, show s - 2 ^ l = (M - 1) * 2 ^ l by rw [hse, Nat.add_mul]; omega]
end Go.Proofs.YtielnphmcaecdaaDoor.PAll
