-- Written by a program of this session (wip/tools)
import Derived.Test.YtielnphmcaecdaaDoorQIMRootFns
import Derived.Test.YtielnphmcaecdaaDoorQIMConsOf
import Derived.Test.YtielnphmcaecdaaDoorQIMExtHashes
import Derived.Test.YtielnphmcaecdaaDoorQIMPAllx15
import Derived.Test.YtielnphmcaecdaaDoorQIMFoldFns
import Derived.Test.YtielnphmcaecdaaDoorQIMPAllx17
namespace Go.Proofs.YtielnphmcaecdaaDoor.Hsh
open Go.RowKit Go.Proofs.YtielnphmcaecdaaDoor.Num Go.Proofs.YtielnphmcaecdaaDoor.Mth Go.Proofs.YtielnphmcaecdaaDoor.PAll Go.Proofs.YtielnphmcaecdaaDoorW.PrintWords Go.Proofs.YtielnphmcaecdaaDoorW.PrintLast
set_option linter.unusedVariables false
set_option linter.unusedSimpArgs false
theorem bord_foldR (H : List Int → List Int → List Int) (E : List Int) : ∀ (xs : List (List Int)) (x : List Int), bord H xs.reverse x = foldR H E (xs ++ [x])
  | [], x => rfl
  | y :: ys, x => by
    rw [List.reverse_cons, bord_append, bord_foldR H E ys x]
    show H y _ = _
    rw [List.cons_append, foldR_step (by simp)]
def prtV (H : List Int → List Int → List Int) (E : List Int) (val : Nat × Nat → List Int) (p : Nat × Nat) : List Int := foldR H E ((Nds 0 p.1 p.2).map val)
theorem Nds_one (l c : Nat) : Nds 0 (c * 2 ^ l) ((c + 1) * 2 ^ l) = [(l, c)] := by
  rw [Nds_shift, Nds_step l c (c + 1) (by omega), lev_no (by omega), Nat.pow_zero, Nat.div_one, Nds_empty (by omega)]; rfl
theorem prtV_lvs (H : List Int → List Int → List Int) (E : List Int) (val : Nat × Nat → List Int) (q : Nat × Nat) : prtV H E val (lvs q) = val q := by
  obtain ⟨l, c⟩ := q
  unfold prtV lvs
  dsimp only
  rw [Nds_one]; rfl
theorem map_lvs (H : List Int → List Int → List Int) (E : List Int) (val : Nat × Nat → List Int) (l : List (Nat × Nat)) : (l.map lvs).map (prtV H E val) = l.map val := by
  rw [List.map_map]
  exact List.map_congr_left (fun q _ => prtV_lvs H E val q)
theorem folded_mid (H : List Int → List Int → List Int) (E : List Int) (A G : List (List Int)) (xs : List (List Int)) (hx : xs ≠ []) : folded H A.length (A.length + xs.length) (A ++ xs.reverse ++ G) = A ++ [foldR H E xs] ++ G := by
  have hl : 0 < xs.length := List.length_pos_iff.2 hx
  obtain ⟨ys, y, rfl⟩ : ∃ ys y, xs = ys ++ [y] := ⟨xs.dropLast, xs.getLast hx, (List.dropLast_concat_getLast hx).symm⟩
  unfold folded
  rw [if_pos (by omega)]
  have e0 : (ys ++ [y]).reverse = y :: ys.reverse := by simp
  have e1 : (A ++ (ys ++ [y]).reverse ++ G).take A.length = A := by rw [List.append_assoc, List.take_left]
  have e2 : (A ++ (ys ++ [y]).reverse ++ G).drop (A.length + (ys ++ [y]).length) = G := by
    rw [show A.length + (ys ++ [y]).length = (A ++ (ys ++ [y]).reverse).length by simp, List.drop_left]
  have e3 : ((A ++ (ys ++ [y]).reverse ++ G).take (A.length + (ys ++ [y]).length)).drop (A.length + 1) = ys.reverse := by
    rw [show A.length + (ys ++ [y]).length = (A ++ (ys ++ [y]).reverse).length by simp, List.take_left, e0, ← List.drop_drop, List.drop_left]; rfl
  have e4 : (A ++ (ys ++ [y]).reverse ++ G).getD A.length [] = y := by
    rw [e0, List.append_assoc, List.getD_eq_getElem?_getD, List.getElem?_append_right (Nat.le_refl _), Nat.sub_self]; rfl
  rw [e1, e2, e3, e4, bord_foldR H E]
  simp
theorem folded_none (H : List Int → List Int → List Int) (b : Nat) (l : List (List Int)) : folded H b b l = l := by unfold folded; rw [if_neg (by omega)]
theorem folded_parts (H : List Int → List Int → List Int) (E : List Int) (val : Nat × Nat → List Int) (c l n : Nat) (hi : c < n / 2 ^ l) : folded H (skBegin c l n) (skEnd c l n) ((skIds c l n).map val) = (nParts c l n).map (prtV H E val) := by
  have hE := (ndE_le c l n hi).2
  unfold skIds nParts skBegin skEnd
  rw [List.map_append, List.map_append, List.map_append, List.map_append, map_lvs, map_lvs]
  by_cases h : ndE c l n < n
  · have hne := Nds_nonempty (l := 0) h
    have hm := folded_mid H E ((ndS c l n).map val) ((Nds 0 0 (ndB c l n)).reverse.map val) ((Nds 0 (ndE c l n) n).map val) (by intro e; have := congrArg List.length e; rw [List.length_map, List.length_nil] at this; omega)
    rw [List.length_map, List.length_map, ndS_len, ← List.map_reverse] at hm
    rw [if_neg (by omega), if_neg (by omega), if_pos h, hm]; rfl
  · rw [if_neg h, Nds_empty (show n ≤ ndE c l n by omega), if_pos (by rfl), if_pos (by rfl), folded_none]; rfl
theorem path_nParts (i n : Nat) (hi : i < n) : path i 0 n = nParts i 0 n := by
  have hPP := (path_parts i n n n 0 (by omega) (by simp) (by have := @Nat.lt_two_pow_self n; omega) (Nat.zero_le _) hi).2
  have hm : ndM i 0 n = fork i n - 1 := by unfold ndM; rw [Nat.pow_zero, Nat.div_one]
  rw [hPP]
  unfold nParts ndE ndB ndS sibs
  rw [hm, Nat.zero_add]
  congr 2
  congr 1
  apply List.map_congr_left
  intro t _
  rw [Nat.zero_add]; rfl
theorem prtV_mth (H : List Int → List Int → List Int) (E : List Int) (L : List (List Int)) {b e M : Nat} (he : e ≤ L.length) (hb : b % 2 ^ M = 0) (hM : e ≤ b + 2 ^ M) (hbe : b < e) : prtV H E (nodeH H E L) (b, e) = mth H E (seg L b e) :=
  fold_nodes H E L e he _ M b rfl hb hM hbe
theorem part_mth (H : List Int → List Int → List Int) (E : List Int) (L : List (List Int)) (c l n : Nat) (hi : c < n / 2 ^ l) (hn : n ≤ L.length) : ∀ p ∈ nParts c l n, prtV H E (nodeH H E L) p = mth H E (seg L p.1 p.2) ∧ p.1 < p.2 ∧ p.2 ≤ n := by
  obtain ⟨hE1, hE⟩ := ndE_le c l n hi
  have hB := ndB_lt c l n hi
  have hone : ∀ q : Nat × Nat, (q.2 + 1) * 2 ^ q.1 ≤ n → prtV H E (nodeH H E L) (lvs q) = mth H E (seg L (lvs q).1 (lvs q).2) ∧ (lvs q).1 < (lvs q).2 ∧ (lvs q).2 ≤ n := by
    intro q hq
    rw [prtV_lvs]
    refine ⟨rfl, ?_, hq⟩
    unfold lvs
    dsimp only
    have := Nat.two_pow_pos q.1
    rw [Nat.add_mul, Nat.one_mul]; omega
  intro p hp
  unfold nParts at hp
  rcases List.mem_append.1 hp with hp | hp
  · rcases List.mem_append.1 hp with hp | hp
    · obtain ⟨q, hq, rfl⟩ := List.mem_map.1 hp
      refine hone q ?_
      unfold ndS at hq
      obtain ⟨t, ht, rfl⟩ := List.mem_map.1 hq
      have ht := List.mem_range.1 ht
      have h1 := blk_le c l (show t + 1 ≤ ndM c l n from ht)
      have h2 : (c / 2 ^ ndM c l n + 1) * 2 ^ (l + ndM c l n) ≤ n := hE
      have hx : c / 2 ^ (t + 1) = c / 2 ^ t / 2 := by rw [Nat.pow_succ, ← Nat.div_div_eq_div_mul]
      have e2 : (c / 2 ^ (t + 1) + 1) * 2 ^ (l + (t + 1)) = (2 * (c / 2 ^ t / 2) + 2) * 2 ^ (l + t) := by
        rw [hx, ← Nat.add_assoc, Nat.pow_succ, show 2 * (c / 2 ^ t / 2) + 2 = 2 * (c / 2 ^ t / 2 + 1) by omega]; ac_rfl
      have h3 : (sib c t).2 + 1 ≤ 2 * (c / 2 ^ t / 2) + 2 := by
        unfold sib; dsimp only; split <;> omega
      have h4 := Nat.mul_le_mul_right (2 ^ (l + t)) h3
      show ((sib c t).2 + 1) * 2 ^ (l + t) ≤ n
      omega
    · split at hp
      · rename_i hlt
        have e := List.mem_singleton.1 hp
        subst e
        refine ⟨prtV_mth H E L (M := l + ndM c l n) hn ?_ ?_ hlt, hlt, Nat.le_refl _⟩
        · rw [hE1, Nat.mul_mod_left]
        · have h1 : n < (n / 2 ^ (l + ndM c l n) + 1) * 2 ^ (l + ndM c l n) := (Nat.div_lt_iff_lt_mul (Nat.two_pow_pos (l + ndM c l n))).1 (Nat.lt_succ_self _)
          rw [Nat.add_mul, Nat.one_mul, ← hE1] at h1; omega
      · cases hp
  · obtain ⟨q, hq, rfl⟩ := List.mem_map.1 hp
    have := Nds_in (ndB c l n) _ 0 rfl q (List.mem_reverse.1 hq)
    exact hone q (by omega)
theorem ids_in (c l n : Nat) (hi : c < n / 2 ^ l) : ∀ p ∈ skIds c l n, (p.2 + 1) * 2 ^ p.1 ≤ n := by
  obtain ⟨hE1, hE⟩ := ndE_le c l n hi
  have hB := ndB_lt c l n hi
  intro p hp
  unfold skIds at hp
  rcases List.mem_append.1 hp with hp | hp
  · rcases List.mem_append.1 hp with hp | hp
    · have := (part_mth (fun _ _ => []) [] (List.replicate n []) c l n hi (by simp) (lvs p) (by
        unfold nParts
        exact List.mem_append_left _ (List.mem_append_left _ (List.mem_map_of_mem hp)))).2.2
      exact this
    · exact (Nds_in n _ (ndE c l n) rfl p (List.mem_reverse.1 hp)).2
  · have := Nds_in (ndB c l n) _ 0 rfl p (List.mem_reverse.1 hp)
    omega
theorem spec_RootOf.eq (a0 a1 a2 a3 a4 a5 : Int) (L : List (List Int)) (hn : L.length ≤ 300) (hm : ∀ x ∈ L, x.length ≤ 5000) (b e : Nat) (hbe : b ≤ e) (he : e ≤ L.length) (K : Nat) (hK : 20000000 ≤ K) :
    spec_RootOf.f K a0 a1 a2 a3 a4 a5 L (b : Int) (e : Int) = some (mth (hash a0 a2 a5) (empt a0 a2 a3) (seg L b e)) := by
  unfold spec_RootOf.f
  rw [if_pos (by omega), if_pos (by omega), if_pos (by omega), Int.toNat_natCast, Int.toNat_natCast]
  show (spec_Root.f K a0 a1 a2 a3 a4 a5 (seg L b e)).bind _ = _
  have hl := seg_length (b := b) he
  rw [spec_Root.eq a0 a1 a2 a3 a4 a5 (e - b) _ hl (by omega) (seg_bound hm) K (by omega)]; rfl
theorem rdP53 {Q : List S53} {j : Nat} {q : S53} (h : Q[j]? = some q) : rd_T53 Q (j : Int) = q := by
  unfold rd_T53
  rw [Int.toNat_natCast, List.getD_eq_getElem?_getD, h]; rfl
theorem spec_Path_loop (a0 a1 a2 a3 a4 a5 : Int) (L : List (List Int)) (hn : L.length ≤ 300) (hm : ∀ x ∈ L, x.length ≤ 5000) (P : List (Nat × Nat)) (hP : ∀ p ∈ P, p.1 < p.2 ∧ p.2 ≤ L.length) (hPl : P.length ≤ 1000) (K0 : Nat) (hK0 : 20000000 ≤ K0) (d : Nat) : ∀ (j : Nat) (out : List (List Int)), j + d = P.length → out.length = j →
    spec_Path.l0 (K0 + d + 1) L out (P.map prt) ((P.map prt).length : Int) (j : Int) a0 a1 a2 a3 a4 a5 = some (out ++ (P.drop j).map fun p => mth (hash a0 a2 a5) (empt a0 a2 a3) (seg L p.1 p.2)) := by
  induction d with
  | zero =>
    intro j out hj ho
    rw [spec_Path.l0, if_neg (by rw [List.length_map]; omega), List.drop_of_length_le (by omega)]; simp
  | succ d ih =>
    intro j out hj ho
    obtain ⟨p, hp⟩ : ∃ p, P[j]? = some p := ⟨_, List.getElem?_eq_getElem (by omega)⟩
    obtain ⟨h1, h2⟩ := hP p (List.mem_of_getElem? hp)
    have hpj : (P.map prt)[j]? = some (prt p) := by rw [List.getElem?_map, hp]; rfl
    rw [spec_Path.l0, if_pos (by rw [List.length_map]; omega), if_pos (by omega), if_pos (by rw [List.length_map]; omega), rdP53 hpj]
    show (spec_RootOf.f (K0 + d + 1) a0 a1 a2 a3 a4 a5 L (p.1 : Int) (p.2 : Int)).bind _ = _
    rw [spec_RootOf.eq a0 a1 a2 a3 a4 a5 L hn hm p.1 p.2 (by omega) h2 (K0 + d + 1) (by omega), Option.bind_some, if_pos (by omega), next64 (by omega), show K0 + (d + 1) = K0 + d + 1 by omega, ih (j + 1) _ (by omega) (by rw [List.length_append, ho]; rfl)]
    have hd : P.drop j = p :: P.drop (j + 1) := by
      have hl := (List.getElem?_eq_some_iff.1 hp).1
      rw [List.drop_eq_getElem_cons hl]
      congr 1
      rw [List.getElem?_eq_getElem hl] at hp
      exact Option.some.inj hp
    rw [hd, List.map_cons, List.append_assoc]; rfl
theorem spec_Path.eq (a0 a1 a2 a3 a4 a5 : Int) (L : List (List Int)) (hn : L.length ≤ 300) (hm : ∀ x ∈ L, x.length ≤ 5000) (i : Nat) (hi : i < L.length) (K : Nat) (hK : 30000000 ≤ K) :
    spec_Path.f K a0 a1 a2 a3 a4 a5 L (i : Int) = some ((path i 0 L.length).map fun p => mth (hash a0 a2 a5) (empt a0 a2 a3) (seg L p.1 p.2)) := by
  unfold spec_Path.f
  rw [u64in (by omega), spec_PathParts.eq i L.length (by omega) (by omega) K (by omega), Option.bind_some]
  have hlen : (path i 0 L.length).length ≤ 64 := Nat.le_trans (path_len i 0 L.length) (blen_lt64 (by omega))
  have hP : ∀ p ∈ path i 0 L.length, p.1 < p.2 ∧ p.2 ≤ L.length := fun p hp => by
    rw [path_nParts i _ hi] at hp
    exact (part_mth (fun _ _ => []) [] L i 0 L.length (by rw [Nat.pow_zero, Nat.div_one]; exact hi) (Nat.le_refl _) p hp).2
  have := spec_Path_loop a0 a1 a2 a3 a4 a5 L hn hm (path i 0 L.length) hP (by omega) (K - (path i 0 L.length).length - 1) (by omega) (path i 0 L.length).length 0 [] (by omega) rfl
  rw [show K - (path i 0 L.length).length - 1 + (path i 0 L.length).length + 1 = K by omega] at this
  exact this
end Go.Proofs.YtielnphmcaecdaaDoor.Hsh
