-- Written by a program of this session (wip/tools)
import Derived.Test.YtielnphmcaecdaaDoorQCSConsProof
import Derived.Test.YtielnphmcaecdaaDoorQCSFoldFns
import Derived.Test.YtielnphmcaecdaaDoorQCSPAllx17
import Derived.Test.YtielnphmcaecdaaDoorQCSBits
import Derived.Test.YtielnphmcaecdaaDoorQCSPAllx10
import Derived.Test.YtielnphmcaecdaaDoorQCSExtVer
import Derived.Test.YtielnphmcaecdaaDoorQCSPAllx23
import Derived.Test.YtielnphmcaecdaaDoorQCSV0
import Derived.Deep.Slices
import Derived.Lib.SmallJoins
namespace Go.Proofs.YtielnphmcaecdaaDoor.Hsh
open Go.RowKit Go.Proofs.YtielnphmcaecdaaDoor.Num Go.Proofs.YtielnphmcaecdaaDoor.Mth Go.Proofs.YtielnphmcaecdaaDoor.PAll Go.Proofs.YtielnphmcaecdaaDoorW.PrintWords Go.Proofs.YtielnphmcaecdaaDoorW.PrintLast
set_option linter.unusedVariables false
set_option linter.unusedSimpArgs false
def prtV (H : List Int → List Int → List Int) (E : List Int) (val : Nat × Nat → List Int) (p : Nat × Nat) : List Int := foldR H E ((Nds 0 p.1 p.2).map val)
theorem Nds_one (l c : Nat) : Nds 0 (c * 2 ^ l) ((c + 1) * 2 ^ l) = [(l, c)] := by
  rw [Nds_shift, Nds_step l c (c + 1) (by omega), lev_no (by omega), Nat.pow_zero, Nat.div_one, Nds_empty (by omega)]; rfl
theorem prtV_lvs (H : List Int → List Int → List Int) (E : List Int) (val : Nat × Nat → List Int) (q : Nat × Nat) : prtV H E val (lvs q) = val q := by
  obtain ⟨l, c⟩ := q
  unfold prtV lvs
  dsimp only
  rw [Nds_one]; rfl
theorem prtV_mth (H : List Int → List Int → List Int) (E : List Int) (L : List (List Int)) {b e M : Nat} (he : e ≤ L.length) (hb : b % 2 ^ M = 0) (hM : e ≤ b + 2 ^ M) (hbe : b < e) : prtV H E (nodeH H E L) (b, e) = mth H E (seg L b e) :=
  fold_nodes H E L e he _ M b rfl hb hM hbe
theorem part_mth (H : List Int → List Int → List Int) (E : List Int) (L : List (List Int)) (c l n : Nat) (hi : c < n / 2 ^ l) (hn : n ≤ L.length) : ∀ p ∈ nParts c l n, prtV H E (nodeH H E L) p = mth H E (seg L p.1 p.2) ∧ p.1 < p.2 ∧ p.2 ≤ n := by
  obtain ⟨hE1, hE⟩ := ndE_le c l n hi
  have hB := ndB_lt c l n hi
  have hone : ∀ q : Nat × Nat, (q.2 + 1) * 2 ^ q.1 ≤ n → prtV H E (nodeH H E L) (lvs q) = mth H E (seg L (lvs q).1 (lvs q).2) ∧ (lvs q).1 < (lvs q).2 ∧ (lvs q).2 ≤ n := by
    intro q hq
    rw [prtV_lvs]
    refine ⟨rfl, ?_, hq⟩
    unfold lvs
    dsimp only
    have := Nat.two_pow_pos q.1
    rw [Nat.add_mul, Nat.one_mul]; omega
  intro p hp
  unfold nParts at hp
  rcases List.mem_append.1 hp with hp | hp
  · rcases List.mem_append.1 hp with hp | hp
    · obtain ⟨q, hq, rfl⟩ := List.mem_map.1 hp
      refine hone q ?_
      unfold ndS at hq
      obtain ⟨t, ht, rfl⟩ := List.mem_map.1 hq
      have ht := List.mem_range.1 ht
      have h1 := blk_le c l (show t + 1 ≤ ndM c l n from ht)
      have h2 : (c / 2 ^ ndM c l n + 1) * 2 ^ (l + ndM c l n) ≤ n := hE
      have hx : c / 2 ^ (t + 1) = c / 2 ^ t / 2 := by rw [Nat.pow_succ, ← Nat.div_div_eq_div_mul]
      have e2 : (c / 2 ^ (t + 1) + 1) * 2 ^ (l + (t + 1)) = (2 * (c / 2 ^ t / 2) + 2) * 2 ^ (l + t) := by
        rw [hx, ← Nat.add_assoc, Nat.pow_succ, show 2 * (c / 2 ^ t / 2) + 2 = 2 * (c / 2 ^ t / 2 + 1) by omega]; ac_rfl
      have h3 : (sib c t).2 + 1 ≤ 2 * (c / 2 ^ t / 2) + 2 := by
        unfold sib; dsimp only; split <;> omega
      have h4 := Nat.mul_le_mul_right (2 ^ (l + t)) h3
      show ((sib c t).2 + 1) * 2 ^ (l + t) ≤ n
      omega
    · split at hp
      · rename_i hlt
        have e := List.mem_singleton.1 hp
        subst e
        refine ⟨prtV_mth H E L (M := l + ndM c l n) hn ?_ ?_ hlt, hlt, Nat.le_refl _⟩
        · rw [hE1, Nat.mul_mod_left]
        · have h1 : n < (n / 2 ^ (l + ndM c l n) + 1) * 2 ^ (l + ndM c l n) := (Nat.div_lt_iff_lt_mul (Nat.two_pow_pos (l + ndM c l n))).1 (Nat.lt_succ_self _)
          rw [Nat.add_mul, Nat.one_mul, ← hE1] at h1; omega
      · cases hp
  · obtain ⟨q, hq, rfl⟩ := List.mem_map.1 hp
    have := Nds_in (ndB c l n) _ 0 rfl q (List.mem_reverse.1 hq)
    exact hone q (by omega)
theorem spec_RootOf.eq (a0 a1 a2 a3 a4 a5 : Int) (L : List (List Int)) (hn : L.length ≤ 300) (hm : ∀ x ∈ L, x.length ≤ 5000) (b e : Nat) (hbe : b ≤ e) (he : e ≤ L.length) (K : Nat) (hK : 20000000 ≤ K) :
    spec_RootOf.f K a0 a1 a2 a3 a4 a5 L (b : Int) (e : Int) = some (mth (hash a0 a2 a5) (empt a0 a2 a3) (seg L b e)) := by
  unfold spec_RootOf.f
  rw [if_pos (by omega), if_pos (by omega), if_pos (by omega), Int.toNat_natCast, Int.toNat_natCast]
  show (spec_Root.f K a0 a1 a2 a3 a4 a5 (seg L b e)).bind _ = _
  have hl := seg_length (b := b) he
  rw [spec_Root.eq a0 a1 a2 a3 a4 a5 (e - b) _ hl (by omega) (seg_bound hm) K (by omega)]; rfl
theorem rdP53 {Q : List S53} {j : Nat} {q : S53} (h : Q[j]? = some q) : rd_T53 Q (j : Int) = q := by
  unfold rd_T53
  rw [Int.toNat_natCast, List.getD_eq_getElem?_getD, h]; rfl
theorem spec_Proof_loop (a0 a1 a2 a3 a4 a5 : Int) (L : List (List Int)) (hn : L.length ≤ 300) (hm : ∀ x ∈ L, x.length ≤ 5000) (P : List (Nat × Nat)) (hP : ∀ p ∈ P, p.1 < p.2 ∧ p.2 ≤ L.length) (hPl : P.length ≤ 1000) (K0 : Nat) (hK0 : 20000000 ≤ K0) (d : Nat) : ∀ (j : Nat) (out : List (List Int)), j + d = P.length → out.length = j →
    spec_Proof.l0 (K0 + d + 1) L out (P.map prt) ((P.map prt).length : Int) (j : Int) a0 a1 a2 a3 a4 a5 = some (out ++ (P.drop j).map fun p => mth (hash a0 a2 a5) (empt a0 a2 a3) (seg L p.1 p.2)) := by
  induction d with
  | zero =>
    intro j out hj ho
    rw [spec_Proof.l0, if_neg (by rw [List.length_map]; omega), List.drop_of_length_le (by omega)]; simp
  | succ d ih =>
    intro j out hj ho
    obtain ⟨p, hp⟩ : ∃ p, P[j]? = some p := ⟨_, List.getElem?_eq_getElem (by omega)⟩
    obtain ⟨h1, h2⟩ := hP p (List.mem_of_getElem? hp)
    have hpj : (P.map prt)[j]? = some (prt p) := by rw [List.getElem?_map, hp]; rfl
    rw [spec_Proof.l0, if_pos (by rw [List.length_map]; omega), if_pos (by omega), if_pos (by rw [List.length_map]; omega), rdP53 hpj]
    show (spec_RootOf.f (K0 + d + 1) a0 a1 a2 a3 a4 a5 L (p.1 : Int) (p.2 : Int)).bind _ = _
    rw [spec_RootOf.eq a0 a1 a2 a3 a4 a5 L hn hm p.1 p.2 (by omega) h2 (K0 + d + 1) (by omega), Option.bind_some, if_pos (by omega), next64 (by omega), show K0 + (d + 1) = K0 + d + 1 by omega, ih (j + 1) _ (by omega) (by rw [List.length_append, ho]; rfl)]
    have hd : P.drop j = p :: P.drop (j + 1) := by
      have hl := (List.getElem?_eq_some_iff.1 hp).1
      rw [List.drop_eq_getElem_cons hl]
      congr 1
      rw [List.getElem?_eq_getElem hl] at hp
      exact Option.some.inj hp
    rw [hd, List.map_cons, List.append_assoc]; rfl
theorem cpath_in (s n : Nat) (h0 : 0 < s) (hs : s ≤ n) (hn : n < 18446744073709551616) : ∀ p ∈ cpath s 0 n true, p.1 < p.2 ∧ p.2 ≤ n := by
  intro p hp
  by_cases he : s = n
  · subst he; rw [cpath_end, if_pos rfl] at hp; cases hp
  · obtain ⟨o1, o2⟩ := lev_odd h0
    obtain ⟨o3, o4⟩ := lev_facts h0 (show s < n by omega) hn
    generalize lev s (2 * s) = l at o1 o2 o3 o4
    generalize s / 2 ^ l = M at o1 o2 o4
    have g := (path_node l M s n o2 o1 (by omega)).2.2
    rw [g] at hp
    rcases List.mem_append.1 hp with hp | hp
    · split at hp
      · cases hp
      · have e := List.mem_singleton.1 hp
        subst e
        have h1 : (M - 1 + 1) * 2 ^ l = s := by rw [o1, Nat.mul_comm, show M - 1 + 1 = M by omega]
        have := Nat.two_pow_pos l
        unfold lvs
        dsimp only
        rw [h1]
        rw [Nat.add_mul, Nat.one_mul] at h1
        omega
    · exact (part_mth (fun _ _ => []) [] (List.replicate n []) (M - 1) l n o4 (by simp) p hp).2
theorem spec_Proof.eq (a0 a1 a2 a3 a4 a5 : Int) (L : List (List Int)) (hn : L.length ≤ 300) (hm : ∀ x ∈ L, x.length ≤ 5000) (s : Nat) (h0 : 0 < s) (hs : s ≤ L.length) (K : Nat) (hK : 30000000 ≤ K) :
    spec_Proof.f K a0 a1 a2 a3 a4 a5 L (s : Int) = some ((cpath s 0 L.length true).map fun p => mth (hash a0 a2 a5) (empt a0 a2 a3) (seg L p.1 p.2)) := by
  unfold spec_Proof.f
  rw [u64in (by omega), spec_ProofParts.eq s L.length h0 hs (by omega) K (by omega), Option.bind_some]
  have hlen : (cpath s 0 L.length true).length ≤ 65 := Nat.le_trans (cpath_len s 0 L.length true) (by have := blen_lt64 (n := L.length - 0 - 1) (by omega); omega)
  have := spec_Proof_loop a0 a1 a2 a3 a4 a5 L hn hm (cpath s 0 L.length true) (cpath_in s L.length h0 hs (by omega)) (by omega) (K - (cpath s 0 L.length true).length - 1) (by omega) (cpath s 0 L.length true).length 0 [] (by omega) rfl
  rw [show K - (cpath s 0 L.length true).length - 1 + (cpath s 0 L.length true).length + 1 = K by omega] at this
  exact this
end Go.Proofs.YtielnphmcaecdaaDoor.Hsh
namespace Go.Proofs.YtielnphmcaecdaaDoor.Hsh
open Go.RowKit Go.Proofs.YtielnphmcaecdaaDoor.Num Go.Proofs.YtielnphmcaecdaaDoor.Mth Go.Proofs.YtielnphmcaecdaaDoor.PAll Go.Proofs.YtielnphmcaecdaaDoorW.PrintWords Go.Proofs.YtielnphmcaecdaaDoorW.PrintLast
set_option linter.unusedVariables false
theorem byt_at (x i : Nat) (hx : x < 18446744073709551616) : byt (x : Int) i = ((x / 2 ^ (8 * i) % 256 : Nat) : Int) := by
  unfold byt; rw [shr64' _ _ hx]; rfl
theorem wrd_inj {x y : Nat} (hx : x < 4294967296) (hy : y < 4294967296) (h : wrd (x : Int) 8 = wrd (y : Int) 8) : x = y := by
  simp only [wrd, byt_at _ _ (show x < 18446744073709551616 by omega), byt_at _ _ (show y < 18446744073709551616 by omega), List.cons.injEq] at h
  obtain ⟨_, _, _, _, h3, h2, h1, h0, _⟩ := h
  rw [show 2 ^ (8 * 3) = 16777216 from rfl] at h3
  rw [show 2 ^ (8 * 2) = 65536 from rfl] at h2
  rw [show 2 ^ (8 * 1) = 256 from rfl] at h1
  rw [show 2 ^ (8 * 0) = 1 from rfl] at h0
  omega
theorem hash_tells (a0 a2 a5 : Int) (h0 : a0 ≠ 1) : Tells (hash a0 a2 a5) := by
  intro a b c d ha hc h
  unfold hash at h
  rw [if_neg h0, if_neg h0, u64in (by omega), u64in (by omega), List.append_assoc, List.append_assoc, List.append_assoc, List.append_assoc] at h
  have h1 := List.append_cancel_left h
  obtain ⟨h2, h3⟩ := List.append_inj h1 (by rw [wrd_length, wrd_length])
  have hl := wrd_inj (by omega) (by omega) h2
  exact List.append_inj h3 hl
theorem bit_and (n i : Nat) (hn : n < 18446744073709551616) : Go.bits .and .u64 (shr .u64 (n : Int) (i : Int)) 1 = ((n / 2 ^ i % 2 : Nat) : Int) := by
  rw [shr64' _ _ hn]
  have h1 : n / 2 ^ i < 18446744073709551616 := Nat.lt_of_le_of_lt (Nat.div_le_self _ _) hn
  have := and64 (n / 2 ^ i) 1 h1 (by omega)
  rw [Nat.and_one_is_mod] at this
  exact this
def fst (s _ : List Int) : List Int := s
theorem up_fn (F : List Int → List Int → Option (List Int)) (H : List Int → List Int → List Int) (hH : ∀ l r, (H l r).length ≤ 9 + l.length + r.length) (hF : ∀ l r, l.length ≤ 1000000000 → r.length ≤ 1000000000 → F l r = some (H l r)) (m : Nat) (hm : m ≤ 1000000000) (n : Nat) (hn : n < 18446744073709551616) :
    ∀ (l : List (List Int)) (i : Nat) (s : List Int), (∀ x ∈ l, x.length ≤ m) → s.length + (m + 9) * l.length ≤ 1000000000 → up_ F (n : Int) l i s = some (chn H H n l i s) ∧ (chn H H n l i s).length ≤ s.length + (m + 9) * l.length
  | [], i, s, _, _ => ⟨rfl, by show s.length ≤ _; omega⟩
  | x :: l, i, s, h, hs => by
    have h2 := hH x s
    have h4 := hH s x
    have h3 := h x List.mem_cons_self
    rw [List.length_cons, Nat.mul_succ] at hs
    have := Nat.mod_two_eq_zero_or_one (n / 2 ^ i)
    rw [up_, bit_and n i hn, chn, List.length_cons, Nat.mul_succ]
    by_cases e : n / 2 ^ i % 2 = 0
    · obtain ⟨k1, k2⟩ := up_fn F H hH hF m hm n hn l (i + 1) (H s x) (fun y hy => h y (List.mem_cons_of_mem _ hy)) (by omega)
      rw [if_pos (by omega), if_pos e, hF s x (by omega) (by omega), Option.bind_some]
      exact ⟨k1, by omega⟩
    · obtain ⟨k1, k2⟩ := up_fn F H hH hF m hm n hn l (i + 1) (H x s) (fun y hy => h y (List.mem_cons_of_mem _ hy)) (by omega)
      rw [if_neg (by omega), if_neg e, hF x s (by omega) (by omega), Option.bind_some]
      exact ⟨k1, by omega⟩
theorem upR_fn (F : List Int → List Int → Option (List Int)) (H : List Int → List Int → List Int) (hH : ∀ l r, (H l r).length ≤ 9 + l.length + r.length) (hF : ∀ l r, l.length ≤ 1000000000 → r.length ≤ 1000000000 → F l r = some (H l r)) (m : Nat) (hm : m ≤ 1000000000) (n : Nat) (hn : n < 18446744073709551616) :
    ∀ (l : List (List Int)) (i : Nat) (s : List Int), (∀ x ∈ l, x.length ≤ m) → s.length + (m + 9) * l.length ≤ 1000000000 → upR_ F (n : Int) l i s = some (chn fst H n l i s) ∧ (chn fst H n l i s).length ≤ s.length + (m + 9) * l.length
  | [], i, s, _, _ => ⟨rfl, by show s.length ≤ _; omega⟩
  | x :: l, i, s, h, hs => by
    have h2 := hH x s
    have h3 := h x List.mem_cons_self
    rw [List.length_cons, Nat.mul_succ] at hs
    have := Nat.mod_two_eq_zero_or_one (n / 2 ^ i)
    rw [upR_, bit_and n i hn, chn, List.length_cons, Nat.mul_succ]
    by_cases e : n / 2 ^ i % 2 = 0
    · obtain ⟨k1, k2⟩ := upR_fn F H hH hF m hm n hn l (i + 1) s (fun y hy => h y (List.mem_cons_of_mem _ hy)) (by omega)
      rw [if_neg (by omega), if_pos e, Option.bind_some]
      exact ⟨k1, by show (chn fst H n l (i + 1) s).length ≤ _; omega⟩
    · obtain ⟨k1, k2⟩ := upR_fn F H hH hF m hm n hn l (i + 1) (H x s) (fun y hy => h y (List.mem_cons_of_mem _ hy)) (by omega)
      rw [if_pos (by omega), if_neg e, hF x s (by omega) (by omega), Option.bind_some]
      exact ⟨k1, by omega⟩
theorem two_roots (H : List Int → List Int → List Int) (E : List Int) (L : List (List Int)) {l c s n : Nat} (hs : s = (c + 1) * 2 ^ l) (hsn : s ≤ n) (hn : n ≤ L.length) :
    l ≤ (path (s - 1) 0 n).length ∧
    fd H H ((dirs (s - 1) 0 n).drop l) (((path (s - 1) 0 n).map fun p => mth H E (seg L p.1 p.2)).drop l) (mth H E (seg L (c * 2 ^ l) ((c + 1) * 2 ^ l))) = mth H E (seg L 0 n) ∧
    fd fst H ((dirs (s - 1) 0 n).drop l) (((path (s - 1) 0 n).map fun p => mth H E (seg L p.1 p.2)).drop l) (mth H E (seg L (c * 2 ^ l) ((c + 1) * 2 ^ l))) = mth H E (seg L 0 s) := by
  have hp := Nat.two_pow_pos l
  have hs2 : (c + 1) * 2 ^ l = c * 2 ^ l + 2 ^ l := by rw [Nat.add_mul, Nat.one_mul]
  have A := fold_node (R := H) (H := H) (val := fun p => mth H E (seg L p.1 p.2)) (T := fun b e => mth H E (seg L b e)) (l := l) (c := c) (i := s - 1) (N := n) (by omega) (by omega)
    (fun b e h he _ _ => mth_seg H E (by omega) h) (fun b e h he _ _ => mth_seg H E (by omega) h) n 0 n rfl (Nat.le_refl _) (Nat.zero_le _) (by omega) (Nat.zero_mod _)
  have B := fold_node (R := fst) (H := H) (val := fun p => mth H E (seg L p.1 p.2)) (T := fun b e => mth H E (seg L b s)) (l := l) (c := c) (i := s - 1) (N := n) (by omega) (by omega)
    (fun b e h he _ _ => rfl) (fun b e h he h1 h2 => by
      obtain ⟨κ, hκ⟩ : ∃ κ, psplit (e - b) = 2 ^ κ := ⟨_, rfl⟩
      have g2 := le_psplit (n := e - b) h
      have hk : psplit (s - b) = psplit (e - b) := by
        rw [hκ] at g2 h1 ⊢
        exact psplit_unique (by omega) (by omega)
      have g3 := psplit_pos (e - b)
      show mth H E (seg L b s) = H (mth H E (seg L b (b + psplit (e - b)))) (mth H E (seg L (b + psplit (e - b)) s))
      rw [← hk]
      exact mth_seg H E (by omega) (by omega)) n 0 n rfl (Nat.le_refl _) (Nat.zero_le _) (by omega) (Nat.zero_mod _)
  refine ⟨A.1, A.2, ?_⟩
  rw [← hs]
  exact B.2
end Go.Proofs.YtielnphmcaecdaaDoor.Hsh
namespace Go.Proofs.YtielnphmcaecdaaDoor.Hsh
open Go.RowKit Go.Proofs.YtielnphmcaecdaaDoor.Num Go.Proofs.YtielnphmcaecdaaDoor.Mth Go.Proofs.YtielnphmcaecdaaDoor.PAll Go.Proofs.YtielnphmcaecdaaDoorW.PrintWords Go.Proofs.YtielnphmcaecdaaDoorW.PrintLast
set_option linter.unusedVariables false
theorem byteLoop (bs : ByteArray) : ∀ (d i : Nat) (r : List UInt8), bs.size - i = d → ByteArray.toList.loop bs i r = r.reverse ++ bs.data.toList.drop i := by
  intro d
  induction d with
  | zero =>
    intro i r h
    rw [ByteArray.toList.loop, if_neg (by omega), List.drop_of_length_le (by rw [Array.length_toList]; exact (by omega : bs.size ≤ i)), List.append_nil]
  | succ d ih =>
    intro i r h
    have hi : i < bs.data.toList.length := by rw [Array.length_toList]; exact (by omega : i < bs.size)
    rw [ByteArray.toList.loop, if_pos (by omega), ih (i + 1) _ (by omega), List.drop_eq_getElem_cons hi, List.reverse_cons, List.append_assoc]
    congr 1
    show [bs.data[i]!] ++ _ = _
    rw [Array.length_toList] at hi
    rw [getElem!_pos bs.data i hi]
    rfl
theorem byteList (bs : ByteArray) : bs.toList = bs.data.toList := by
  unfold ByteArray.toList
  rw [byteLoop bs _ 0 [] rfl]; rfl
def Byt (l : List Int) : Prop := ∀ x ∈ l, 0 ≤ x ∧ x < 256
theorem str_inj : ∀ {a b : List Int}, Byt a → Byt b → (strOfNums a).toList = (strOfNums b).toList → a = b := by
  intro a b ha hb h
  rw [byteList, byteList, strOfNums_data, strOfNums_data] at h
  induction a generalizing b with
  | nil =>
    cases b with
    | nil => rfl
    | cons y b => cases h
  | cons x a ih =>
    cases b with
    | nil => cases h
    | cons y b =>
      rw [List.map_cons, List.map_cons] at h
      obtain ⟨h1, h2⟩ := List.cons.inj h
      have hx := ha x (List.mem_cons_self ..)
      have hy := hb y (List.mem_cons_self ..)
      have h3 := congrArg UInt8.toNat h1
      rw [UInt8.toNat_ofNat', UInt8.toNat_ofNat', Nat.mod_eq_of_lt (by omega), Nat.mod_eq_of_lt (by omega)] at h3
      rw [ih (fun z hz => ha z (List.mem_cons_of_mem _ hz)) (fun z hz => hb z (List.mem_cons_of_mem _ hz)) h2, show x = y by omega]
theorem eqS {a b : List Int} (ha : Byt a) (hb : Byt b) : ((strOfNums a).toList == (strOfNums b).toList) = decide (a = b) := by
  by_cases h : a = b
  · rw [decide_eq_true h, h]; exact beq_self_eq_true _
  · rw [decide_eq_false h]
    exact beq_eq_false_iff_ne.mpr (fun e => h (str_inj ha hb e))
theorem sameL_eq : ∀ {l m : List (List Int)}, (∀ x ∈ l, Byt x) → (∀ x ∈ m, Byt x) → sameL l m = decide (l = m)
  | [], [], _, _ => rfl
  | [], _ :: _, _, _ => rfl
  | _ :: _, [], _, _ => rfl
  | x :: xs, y :: ys, h1, h2 => by
    rw [sameL, eqS (h1 x (List.mem_cons_self ..)) (h2 y (List.mem_cons_self ..)), sameL_eq (fun z hz => h1 z (List.mem_cons_of_mem _ hz)) (fun z hz => h2 z (List.mem_cons_of_mem _ hz))]
    by_cases e : x = y
    · subst e
      rw [if_pos (by simp)]
      by_cases e2 : xs = ys
      · subst e2; simp
      · rw [decide_eq_false e2, decide_eq_false (fun h => e2 (List.cons.inj h).2)]
    · rw [if_neg (by simpa using e), decide_eq_false (fun h => e (List.cons.inj h).1)]
theorem hash_byt (a0 a2 a5 : Int) (h0 : a0 ≠ 1) {l r : List Int} (hl : Byt l) (hr : Byt r) : Byt (hash a0 a2 a5 l r) := by
  have hw : ∀ (w : Int) (n : Nat), Byt (wrd w n) := by
    intro w n
    induction n with
    | zero => intro x hx; cases hx
    | succ n ih =>
      intro x hx
      rw [wrd] at hx
      rcases List.mem_cons.1 hx with rfl | hx
      · unfold byt; omega
      · exact ih x hx
  intro x hx
  unfold hash at hx
  rw [if_neg h0] at hx
  simp only [List.mem_append, List.mem_singleton] at hx
  rcases hx with ((rfl | hx) | hx) | hx
  · omega
  · exact hw _ _ x hx
  · exact hl x hx
  · exact hr x hx
theorem mth_byt {H : List Int → List Int → List Int} (E : List Int) (hH : ∀ l r, Byt l → Byt r → Byt (H l r)) : ∀ (n : Nat) (L : List (List Int)), L.length = n → 0 < n → (∀ x ∈ L, Byt x) → Byt (mth H E L) := by
  intro n
  induction n using Nat.strongRecOn with
  | _ n ih =>
  intro L hn h0 hL
  by_cases h1 : n = 1
  · obtain ⟨x, rfl⟩ : ∃ x, L = [x] := List.length_eq_one_iff.1 (by omega)
    rw [mth_one]; exact hL x (List.mem_cons_self ..)
  · have g1 := psplit_lt (n := L.length) (by omega)
    have g2 := psplit_pos L.length
    rw [mth_split H E (by omega)]
    refine hH _ _ ?_ ?_
    · exact ih (min (psplit L.length) L.length) (by omega) (L.take (psplit L.length)) List.length_take (by omega) (fun x hx => hL x (List.mem_of_mem_take hx))
    · exact ih (L.length - psplit L.length) (by omega) (L.drop (psplit L.length)) List.length_drop (by omega) (fun x hx => hL x (List.mem_of_mem_drop hx))
end Go.Proofs.YtielnphmcaecdaaDoor.Hsh
namespace Go.Proofs.YtielnphmcaecdaaDoor.Hsh
open Go.RowKit Go.Proofs.YtielnphmcaecdaaDoor.Num Go.Proofs.YtielnphmcaecdaaDoor.Mth Go.Proofs.YtielnphmcaecdaaDoor.PAll Go.Proofs.YtielnphmcaecdaaDoorW.PrintWords Go.Proofs.YtielnphmcaecdaaDoorW.PrintLast
set_option linter.unusedVariables false
set_option linter.unusedSimpArgs false
theorem fd_byt {R H : List Int → List Int → List Int} (hH : ∀ l r, Byt l → Byt r → Byt (H l r)) (hR : ∀ l r, Byt l → Byt r → Byt (R l r)) : ∀ (ds : List Bool) (xs : List (List Int)) (s : List Int), (∀ x ∈ xs, Byt x) → Byt s → Byt (fd R H ds xs s)
  | [], xs, s, _, h => h
  | _ :: _, [], s, _, h => h
  | d :: ds, x :: xs, s, h, hs => by
    show Byt (fd R H ds xs (if d then H x s else R s x))
    refine fd_byt hH hR ds xs _ (fun y hy => h y (List.mem_cons_of_mem _ hy)) ?_
    have hx := h x (List.mem_cons_self ..)
    split
    · exact hH x s hx hs
    · exact hR s x hs hx
theorem verT_eq (F : List Int → List Int → Option (List Int)) (H : List Int → List Int → List Int) (hH : ∀ l r, (H l r).length ≤ 9 + l.length + r.length) (hF : ∀ l r, l.length ≤ 1000000000 → r.length ≤ 1000000000 → F l r = some (H l r)) (m : Nat) (hm : m ≤ 1000000000) (n : Nat) (hn : n < 18446744073709551616)
    (i : Nat) (q : List Int) (ys : List (List Int)) (r1 r2 : List Int) (hy : ∀ x ∈ ys, x.length ≤ m) (hq : q.length + (m + 9) * ys.length ≤ 1000000000) :
    verT F (n : Int) i q ys r1 r2 = some (if ((strOfNums (bord H (ys.drop i) (chn fst H n (ys.take i) 0 q))).toList == (strOfNums r1).toList) = true then vmat (bord H (ys.drop i) (chn H H n (ys.take i) 0 q)) r2 else (1, bord H (ys.drop i) (chn fst H n (ys.take i) 0 q))) := by
  have hl : ys.length = (ys.take i).length + (ys.drop i).length := by rw [← List.length_append, List.take_append_drop]
  rw [hl, Nat.mul_add] at hq
  have h1 : ∀ x ∈ ys.take i, x.length ≤ m := fun x hx => hy x (List.mem_of_mem_take hx)
  have h2 : ∀ x ∈ ys.drop i, x.length ≤ m := fun x hx => hy x (List.mem_of_mem_drop hx)
  obtain ⟨u1, u2⟩ := upR_fn F H hH hF m hm n hn (ys.take i) 0 q h1 (by omega)
  obtain ⟨v1, v2⟩ := up_fn F H hH hF m hm n hn (ys.take i) 0 q h1 (by omega)
  unfold verT
  rw [u1, Option.bind_some, upB_eq F H hH hF m hm (ys.drop i) _ h2 (by omega), Option.bind_some, v1, Option.bind_some, upB_eq F H hH hF m hm (ys.drop i) _ h2 (by omega), Option.bind_some]
  split <;> rfl
theorem fd_leR {H : List Int → List Int → List Int} (hH : ∀ l r, (H l r).length ≤ 9 + l.length + r.length) (m : Nat) : ∀ (ds : List Bool) (xs : List (List Int)) (s : List Int), (∀ x ∈ xs, x.length ≤ m) → (fd fst H ds xs s).length ≤ s.length + (m + 9) * xs.length
  | [], xs, s, _ => by show s.length ≤ _; omega
  | _ :: _, [], s, _ => by show s.length ≤ _; omega
  | d :: ds, x :: xs, s, h => by
    have h1 := fd_leR hH m ds xs (if d then H x s else fst s x) (fun y hy => h y (List.mem_cons_of_mem _ hy))
    have h2 := h x (List.mem_cons_self ..)
    have h3 : (if d then H x s else fst s x).length ≤ 9 + x.length + s.length := by
      split
      · exact hH x s
      · show s.length ≤ _; omega
    show (fd fst H ds xs (if d then H x s else fst s x)).length ≤ _
    rw [List.length_cons, Nat.mul_add, Nat.mul_one]
    omega
theorem nodeH_len' (a0 a2 a3 a5 : Int) (L : List (List Int)) (hn : L.length ≤ 300) (hm : ∀ x ∈ L, x.length ≤ 5000) (p : Nat × Nat) (hp : (p.2 + 1) * 2 ^ p.1 ≤ L.length) : (nodeH (hash a0 a2 a5) (empt a0 a2 a3) L p).length ≤ 1502700 := by
  have h1 := seg_length (b := p.2 * 2 ^ p.1) hp
  have hp2 := Nat.two_pow_pos p.1
  have h0 : p.2 * 2 ^ p.1 < (p.2 + 1) * 2 ^ p.1 := Nat.mul_lt_mul_of_pos_right (by omega) hp2
  have h2 := mth_length (hash_grows a0 a2 a5) (empt a0 a2 a3) 5000 _ (seg L (p.2 * 2 ^ p.1) ((p.2 + 1) * 2 ^ p.1)) rfl (by rw [h1]; omega) (seg_bound hm)
  rw [h1] at h2
  have h3 : (p.2 + 1) * 2 ^ p.1 - p.2 * 2 ^ p.1 ≤ 300 := by omega
  have h4 := Nat.mul_le_mul_left (5000 + 9) h3
  unfold nodeH
  omega
theorem core (a0 a1 a2 a3 a4 a5 : Int) (h0 : a0 ≠ 1) (L : List (List Int)) (hn : L.length ≤ 300) (hm : ∀ x ∈ L, x.length ≤ 5000) (hb : ∀ x ∈ L, Byt x) (l c s : Nat) (hs : s = (c + 1) * 2 ^ l) (hsn : s < L.length) (hlf : l ≤ fork (s - 1) (L.length - 1))
    (YS : List (List Int)) (hYS : YS = ((path (s - 1) 0 L.length).map fun p => mth (hash a0 a2 a5) (empt a0 a2 a3) (seg L p.1 p.2)).drop l) (hYm : ∀ y ∈ YS, y.length ≤ 1502700)
    (q : List Int) (ys : List (List Int)) (r1 : List Int) (hq : q.length ≤ 100000) (hqb : Byt q) (hy : ys.length ≤ 300) (hym : ∀ y ∈ ys, y.length ≤ 5000) (hyb : ∀ y ∈ ys, Byt y) (hr : r1.length ≤ 100000) (hrb : Byt r1)
    (hlen : ys.length = fork (s - 1) (L.length - 1) - l + ones ((s - 1) / 2 ^ fork (s - 1) (L.length - 1))) (K : Nat) (hK : 3000000000 ≤ K) :
    ∃ o, verT (impl_toy_HashChildren.f K a0 a1 a2 a3 a4 a5) (((s - 1) / 2 ^ l : Nat) : Int) (fork (s - 1) (L.length - 1) - l) q ys r1 (mth (hash a0 a2 a5) (empt a0 a2 a3) L) = some o ∧
      (o.1 == 0) = decide (r1 = mth (hash a0 a2 a5) (empt a0 a2 a3) (L.take s) ∧ q = mth (hash a0 a2 a5) (empt a0 a2 a3) (seg L (c * 2 ^ l) ((c + 1) * 2 ^ l)) ∧ ys = YS) ∧ o.2.length < 140737488355328 := by
  have hp := Nat.two_pow_pos l
  have hs2 : (c + 1) * 2 ^ l = c * 2 ^ l + 2 ^ l := by rw [Nat.add_mul, Nat.one_mul]
  obtain ⟨t0, t1, t2⟩ := two_roots (hash a0 a2 a5) (empt a0 a2 a3) L hs (Nat.le_of_lt hsn) (Nat.le_refl _)
  rw [← hYS] at t1 t2
  rw [seg_zero, List.take_of_length_le (Nat.le_refl _)] at t1
  rw [seg_zero] at t2
  have hYl : YS.length = fork (s - 1) (L.length - 1) - l + ones ((s - 1) / 2 ^ fork (s - 1) (L.length - 1)) := by
    rw [hYS, List.length_drop, List.length_map, path_length L.length (s - 1) (by omega)]; omega
  have hDl : ((dirs (s - 1) 0 L.length).drop l).length = ys.length := by
    rw [List.length_drop, dirs_len (s - 1) _ 0 L.length rfl, path_length L.length (s - 1) (by omega), hlen]; omega
  have hQm : (mth (hash a0 a2 a5) (empt a0 a2 a3) (seg L (c * 2 ^ l) ((c + 1) * 2 ^ l))).length ≤ 1502700 := nodeH_len' a0 a2 a3 a5 L hn hm (l, c) (by show (c + 1) * 2 ^ l ≤ _; omega)
  have hG := hash_le a0 a2 a5
  have hmul : (5000 + 9) * ys.length ≤ 5009 * 300 := Nat.mul_le_mul_left _ hy
  have hmul2 : (1502700 + 9) * ys.length ≤ 1502709 * 300 := Nat.mul_le_mul_left _ hy
  rw [verT_eq _ (hash a0 a2 a5) hG (impl_H a0 a1 a2 a3 a4 a5 (by omega)) 5000 (by omega) ((s - 1) / 2 ^ l) (Nat.lt_of_le_of_lt (Nat.div_le_self _ _) (by omega)) _ q ys r1 _ hym (by omega),
    prog_fd fst (hash a0 a2 a5) (show s - 1 < L.length by omega) hlf ys hlen, prog_fd (hash a0 a2 a5) (hash a0 a2 a5) (show s - 1 < L.length by omega) hlf ys hlen]
  obtain ⟨D, hD⟩ : ∃ D, D = (dirs (s - 1) 0 L.length).drop l := ⟨_, rfl⟩
  rw [← hD] at t1 t2 hDl ⊢
  have b1 : Byt (fd fst (hash a0 a2 a5) D ys q) := fd_byt (fun _ _ => hash_byt a0 a2 a5 h0) (fun _ _ h _ => h) D ys q hyb hqb
  have b2 : Byt (fd (hash a0 a2 a5) (hash a0 a2 a5) D ys q) := fd_byt (fun _ _ => hash_byt a0 a2 a5 h0) (fun _ _ => hash_byt a0 a2 a5 h0) D ys q hyb hqb
  have b3 : Byt (mth (hash a0 a2 a5) (empt a0 a2 a3) L) := mth_byt _ (fun _ _ => hash_byt a0 a2 a5 h0) _ L rfl (by omega) hb
  refine ⟨_, rfl, ?_, ?_⟩
  · rw [eqS b1 hrb]
    unfold vmat
    rw [eqS b2 b3]
    by_cases g1 : fd fst (hash a0 a2 a5) D ys q = r1
    · rw [decide_eq_true g1, if_pos rfl]
      by_cases g2 : fd (hash a0 a2 a5) (hash a0 a2 a5) D ys q = mth (hash a0 a2 a5) (empt a0 a2 a3) L
      · rw [decide_eq_true g2, if_pos rfl]
        rw [← t1] at g2
        obtain ⟨e1, e2⟩ := fd_inj hG (hash_tells a0 a2 a5 h0) 1502700 D ys YS q _ hDl.symm (by rw [hDl]; omega) (fun y hy => Nat.le_trans (hym y hy) (by omega)) hYm (by omega) (by omega) (by rw [hYl, ← hlen]; omega) g2
        rw [decide_eq_true ⟨by rw [← g1, e1, e2, t2], e2, e1⟩]; rfl
      · rw [decide_eq_false g2, if_neg (by decide), decide_eq_false (fun h => g2 (by rw [h.2.1, h.2.2, t1]))]; rfl
    · rw [decide_eq_false g1, if_neg (by decide), decide_eq_false (fun h => g1 (by rw [h.2.1, h.2.2, t2, h.1]))]; rfl
  · have hlen1 : ∀ a : Bool, (if a = true then vmat (fd (hash a0 a2 a5) (hash a0 a2 a5) D ys q) (mth (hash a0 a2 a5) (empt a0 a2 a3) L) else (1, fd fst (hash a0 a2 a5) D ys q)).2.length < 140737488355328 := by
      have k1 := fd_le hG 5000 D ys q hym
      have k2 := fd_leR hG 5000 D ys q hym
      intro a
      unfold vmat
      split
      · split
        · decide
        · show (fd (hash a0 a2 a5) (hash a0 a2 a5) D ys q).length < _; omega
      · show (fd fst (hash a0 a2 a5) D ys q).length < _; omega
    exact hlen1 _
theorem verC_sound (a0 a1 a2 a3 a4 a5 : Int) (h0 : a0 ≠ 1) (L : List (List Int)) (hn : L.length ≤ 300) (hm : ∀ x ∈ L, x.length ≤ 5000) (hb : ∀ x ∈ L, Byt x) (s : Nat) (hs1 : 1 ≤ s) (hs : s ≤ L.length)
    (x : List (List Int)) (hx : x.length ≤ 300) (hxm : ∀ y ∈ x, y.length ≤ 5000) (hxb : ∀ y ∈ x, Byt y) (r1 : List Int) (hr : r1.length ≤ 100000) (hrb : Byt r1) (K : Nat) (hK : 3000000000 ≤ K) :
    ∃ o, verC K (impl_toy_HashChildren.f K a0 a1 a2 a3 a4 a5) (s : Int) (L.length : Int) x r1 (mth (hash a0 a2 a5) (empt a0 a2 a3) L) = some o ∧
      (o.1 == 0) = (decide (r1 = mth (hash a0 a2 a5) (empt a0 a2 a3) (L.take s)) && decide (x = (cpath s 0 L.length true).map fun p => mth (hash a0 a2 a5) (empt a0 a2 a3) (seg L p.1 p.2))) ∧ o.2.length < 140737488355328 := by
  have b3 : Byt (mth (hash a0 a2 a5) (empt a0 a2 a3) L) := mth_byt _ (fun _ _ => hash_byt a0 a2 a5 h0) _ L rfl (by omega) hb
  unfold verC
  by_cases he : s = L.length
  · rw [if_pos (by omega), he, cpath_end, List.take_of_length_le (Nat.le_refl _)]
    rw [if_pos rfl]
    by_cases hz : x.length = 0
    · rw [if_pos hz]
      obtain rfl := List.eq_nil_of_length_eq_zero hz
      refine ⟨_, rfl, ?_, ?_⟩
      · unfold vmat
        rw [eqS hrb b3]
        by_cases g : r1 = mth (hash a0 a2 a5) (empt a0 a2 a3) L
        · rw [decide_eq_true g, if_pos rfl]; rfl
        · rw [decide_eq_false g, if_neg (by decide)]; rfl
      · unfold vmat
        split
        · decide
        · show r1.length < _; omega
    · rw [if_neg hz]
      refine ⟨_, rfl, ?_, by decide⟩
      rw [List.map_nil, show (decide (x = ([] : List (List Int)))) = false from decide_eq_false (fun h => hz (by rw [h]; rfl)), Bool.and_false]; rfl
  · rw [if_neg (by omega)]
    obtain ⟨o1, o2⟩ := lev_odd (s := s) (by omega)
    obtain ⟨f1, f2⟩ := lev_facts (s := s) (n := L.length) (by omega) (by omega) (by omega)
    obtain ⟨l, hl⟩ : ∃ l, l = lev s (2 * s) := ⟨_, rfl⟩
    rw [← hl] at o1 o2 f1 f2
    obtain ⟨M, hM⟩ : ∃ M, M = s / 2 ^ l := ⟨_, rfl⟩
    rw [← hM] at o1 o2 f2
    have hp := Nat.two_pow_pos l
    have hc : s = (M - 1 + 1) * 2 ^ l := by rw [show M - 1 + 1 = M by omega, Nat.mul_comm]; exact o1
    obtain ⟨p1, p2, p3⟩ := path_node l M s L.length o2 o1 (by omega)
    have hs2 : (M - 1 + 1) * 2 ^ l = (M - 1) * 2 ^ l + 2 ^ l := by rw [Nat.add_mul, Nat.one_mul]
    have hdiv : (s - 1) / 2 ^ l = M - 1 := by
      apply Nat.div_eq_of_lt_le
      · omega
      · show s - 1 < (M - 1 + 1) * 2 ^ l; omega
    have hlf2 : l < fork (s - 1) (L.length - 1) := by
      apply Nat.lt_of_not_le; intro h
      have h2 := fork_le.1 h
      rw [hdiv] at h2
      have h3 : M ≤ (L.length - 1) / 2 ^ l := by
        rw [Nat.le_div_iff_mul_le hp, Nat.mul_comm, ← o1]; omega
      omega
    have hlf := Nat.le_of_lt hlf2
    have hpl := path_length L.length (s - 1) (by omega)
    have htz : bits_TrailingZeros64.f (s : Int) = some (l : Int) := by rw [o1]; exact bits_TrailingZeros64.eq l M o2 (by rw [← o1]; omega)
    have hdc : proof_decompInclProof.f K ((s : Int) - 1) (L.length : Int) = some (((fork (s - 1) (L.length - 1) : Nat) : Int), ((ones ((s - 1) / 2 ^ fork (s - 1) (L.length - 1)) : Nat) : Int)) := by
      rw [show (s : Int) - 1 = ((s - 1 : Nat) : Int) by omega, show K = (K - 1) + 1 by omega]
      exact proof_decompInclProof.eq (s - 1) L.length (by omega) (by omega) (K - 1)
    have hplen := path_len (s - 1) 0 L.length
    have hblen := blen_lt64 (n := L.length - 0 - 1) (by omega)
    obtain ⟨YS, hYS⟩ : ∃ YS, YS = ((path (s - 1) 0 L.length).map fun p => mth (hash a0 a2 a5) (empt a0 a2 a3) (seg L p.1 p.2)).drop l := ⟨_, rfl⟩
    obtain ⟨Q0, hQ0⟩ : ∃ Q0, Q0 = mth (hash a0 a2 a5) (empt a0 a2 a3) (seg L ((M - 1) * 2 ^ l) ((M - 1 + 1) * 2 ^ l)) := ⟨_, rfl⟩
    have hYl : YS.length = fork (s - 1) (L.length - 1) - l + ones ((s - 1) / 2 ^ fork (s - 1) (L.length - 1)) := by
      rw [hYS, List.length_drop, List.length_map, hpl]; omega
    have hPP : ((cpath s 0 L.length true).map fun p => mth (hash a0 a2 a5) (empt a0 a2 a3) (seg L p.1 p.2)) = (if M = 1 then [] else [Q0]) ++ YS := by
      rw [p3, ← p1, List.map_append, List.map_drop, ← hYS, hQ0]
      by_cases h : M = 1
      · rw [if_pos h, if_pos h]; rfl
      · rw [if_neg h, if_neg h]; rfl
    have hYm : ∀ y ∈ YS, y.length ≤ 1502700 := by
      intro y hy
      have hy2 : y ∈ ((cpath s 0 L.length true).map fun p => mth (hash a0 a2 a5) (empt a0 a2 a3) (seg L p.1 p.2)) := by rw [hPP]; exact List.mem_append_right _ hy
      obtain ⟨p, hp2, rfl⟩ := List.mem_map.1 hy2
      obtain ⟨c1, c2⟩ := cpath_in s L.length (by omega) hs (by omega) p hp2
      have h1 := seg_length (b := p.1) c2
      have h2 := mth_length (hash_grows a0 a2 a5) (empt a0 a2 a3) 5000 _ (seg L p.1 p.2) rfl (by rw [h1]; omega) (seg_bound hm)
      rw [h1] at h2
      have h4 := Nat.mul_le_mul_left (5000 + 9) (show p.2 - p.1 ≤ 300 by omega)
      omega
    have hpow : (2 : Int) ^ ((l : Int)).toNat = ((2 ^ l : Nat) : Int) := by rw [Int.toNat_natCast, Int.natCast_pow]; rfl
    have hone : ((s : Int) = 2 ^ ((l : Int)).toNat) ↔ M = 1 := by
      rw [hpow]
      constructor
      · intro h
        have h2 : 2 ^ l * M = 2 ^ l * 1 := by rw [← o1]; omega
        exact Nat.eq_of_mul_eq_mul_left hp h2
      · intro h
        rw [h, Nat.mul_one] at o1; omega
    have hmask : ((s : Int) - 1) / 2 ^ ((l : Int)).toNat = (((s - 1) / 2 ^ l : Nat) : Int) := by
      rw [hpow, show (s : Int) - 1 = ((s - 1 : Nat) : Int) by omega, Int.natCast_ediv]
    obtain ⟨f, hf⟩ : ∃ f, f = fork (s - 1) (L.length - 1) := ⟨_, rfl⟩
    obtain ⟨w, hw⟩ : ∃ w, w = ones ((s - 1) / 2 ^ fork (s - 1) (L.length - 1)) := ⟨_, rfl⟩
    have hcore := core a0 a1 a2 a3 a4 a5 h0 L hn hm hb l (M - 1) s hc (by omega) hlf YS hYS hYm
    rw [← hQ0, ← hw, ← hf] at hcore
    rw [← hw, ← hf] at hYl hdc
    rw [← hf] at hlf hlf2 hpl
    rw [hPP]
    have hfw : f + w ≤ 64 := by rw [← hf] at hw; rw [← hw] at hpl; omega
    have htk : mth (hash a0 a2 a5) (empt a0 a2 a3) (L.take s) = mth (hash a0 a2 a5) (empt a0 a2 a3) (seg L 0 s) := by rw [seg_zero]
    by_cases hz : x.length = 0
    · rw [if_pos hz]
      refine ⟨_, rfl, ?_, by decide⟩
      obtain rfl := List.eq_nil_of_length_eq_zero hz
      rw [show (decide (([] : List (List Int)) = (if M = 1 then [] else [Q0]) ++ YS)) = false from decide_eq_false (fun h => by
        have h2 := congrArg List.length h
        rw [List.length_append, hYl] at h2
        by_cases h1 : M = 1
        · rw [if_pos h1] at h2; simp at h2; omega
        · rw [if_neg h1] at h2; simp at h2; omega), Bool.and_false]; rfl
    · rw [if_neg hz, hdc, Option.bind_some, htz, Option.bind_some]
      dsimp only
      rw [if_pos ⟨by omega, by omega, by omega, by omega, by omega⟩, hmask, show ((f : Int) - (l : Int)).toNat = f - l by omega]
      by_cases h1 : M = 1
      · rw [if_pos (hone.2 h1), if_pos h1, List.nil_append]
        by_cases h2 : (x.length : Int) = (f : Int) - (l : Int) + (w : Int)
        · rw [if_pos h2]
          obtain ⟨o, k1, k2, k3⟩ := hcore r1 x r1 hr hrb hx hxm hxb hr hrb (by omega) K hK
          refine ⟨o, k1, ?_, k3⟩
          rw [k2]
          have hQ1 : Q0 = mth (hash a0 a2 a5) (empt a0 a2 a3) (L.take s) := by
            rw [hQ0, htk, ← hc, h1, Nat.sub_self, Nat.zero_mul]
          rw [hQ1]
          by_cases g1 : r1 = mth (hash a0 a2 a5) (empt a0 a2 a3) (L.take s) <;> by_cases g2 : x = YS <;> simp [g1, g2]
        · rw [if_neg h2]
          refine ⟨_, rfl, ?_, by decide⟩
          rw [show (decide (x = YS)) = false from decide_eq_false (fun h => h2 (by rw [h, hYl]; omega)), Bool.and_false]; rfl
      · rw [if_neg (fun h => h1 (hone.1 h)), if_neg h1]
        by_cases h2 : (x.length : Int) = 1 + ((f : Int) - (l : Int)) + (w : Int)
        · rw [if_pos h2]
          obtain ⟨x0, xs, rfl⟩ : ∃ x0 xs, x = x0 :: xs := by
            cases x with
            | nil => exact absurd rfl hz
            | cons a b => exact ⟨a, b, rfl⟩
          have hx0 : rd_L1 (x0 :: xs) 0 = x0 := rfl
          rw [hx0, List.drop_one, List.tail_cons]
          rw [List.length_cons] at h2 hx
          obtain ⟨o, k1, k2, k3⟩ := hcore x0 xs r1 (Nat.le_trans (hxm x0 (List.mem_cons_self ..)) (by omega)) (hxb x0 (List.mem_cons_self ..)) (by omega) (fun y hy => hxm y (List.mem_cons_of_mem _ hy)) (fun y hy => hxb y (List.mem_cons_of_mem _ hy)) hr hrb (by omega) K hK
          refine ⟨o, k1, ?_, k3⟩
          rw [k2]
          rw [show ([Q0] ++ YS) = Q0 :: YS from rfl]
          simp only [List.cons.injEq, Bool.decide_and]
        · rw [if_neg h2]
          refine ⟨_, rfl, ?_, by decide⟩
          rw [show (decide (x = [Q0] ++ YS)) = false from decide_eq_false (fun h => h2 (by rw [h, List.length_append, hYl]; simp only [List.length_singleton]; omega)), Bool.and_false]; rfl
end Go.Proofs.YtielnphmcaecdaaDoor.Hsh
namespace Go.Proofs.YtielnphmcaecdaaDoor.Pure
open Go.RowKit Go.Proofs.YtielnphmcaecdaaDoor.Num Go.Proofs.YtielnphmcaecdaaDoor.Mth Go.Proofs.YtielnphmcaecdaaDoor.Hsh Go.Proofs.YtielnphmcaecdaaDoor.PAll Go.Proofs.YtielnphmcaecdaaDoorW.PrintWords Go.Proofs.YtielnphmcaecdaaDoorW.PrintLast
set_option linter.unusedVariables false
set_option linter.unusedSimpArgs false
theorem wf_b {x : Int} (h : (Lit.int .u8 x).wf = true) : 0 ≤ x ∧ x < 256 := by
  obtain ⟨n, rfl, hn⟩ := wf_u8 h
  omega
theorem FnConsistencySound (x0 : S24) (l1 : List (List (Int))) (a2 : Int) (l3 : List (List (Int))) (l4 : List (Int)) (w0 : ((Lit.int .i64 x0.f0).wf = true) ∧ ((Lit.int .i64 x0.f1).wf = true) ∧ ((Lit.int .i64 x0.f2).wf = true) ∧ ((Lit.int .u64 x0.f3).wf = true) ∧ ((Lit.int .u64 x0.f4).wf = true) ∧ ((Lit.int .u64 x0.f5).wf = true)) (w1 : l1.length ≤ maxLen ∧ ∀ l1' ∈ l1, l1'.length ≤ maxLen ∧ ∀ l1'' ∈ l1', (Lit.int .u8 l1'').wf = true) (w2 : (Lit.int .u64 a2).wf = true) (w3 : l3.length ≤ maxLen ∧ ∀ l3' ∈ l3, l3'.length ≤ maxLen ∧ ∀ l3'' ∈ l3', (Lit.int .u8 l3'').wf = true) (w4 : l4.length ≤ maxLen ∧ ∀ l4' ∈ l4, (Lit.int .u8 l4').wf = true) : ∃ k, laws_FnConsistencySound.f k x0.f0 x0.f1 x0.f2 x0.f3 x0.f4 x0.f5 l1 a2 l3 l4 = some true := by
  obtain ⟨a0, b1, b2, a3, a4, a5⟩ := x0
  show ∃ k, laws_FnConsistencySound.f k a0 b1 b2 a3 a4 a5 l1 a2 l3 l4 = some true
  obtain ⟨s, rfl, hs64⟩ := wf_u64 w2
  have hb1 : ∀ x ∈ l1, Byt x := fun x hx y hy => wf_b ((w1.2 x hx).2 y hy)
  have hb3 : ∀ x ∈ l3, Byt x := fun x hx y hy => wf_b ((w3.2 x hx).2 y hy)
  have hb4 : Byt l4 := fun y hy => wf_b (w4.2 y hy)
  obtain ⟨z1, k1, hz1, hfit1⟩ := fits l1
  obtain ⟨z3, k3, hz3, hfit3⟩ := fits l3
  obtain ⟨K, hK⟩ : ∃ K, K = k1 + k3 + l1.length + l3.length + 4000000000 := ⟨_, rfl⟩
  refine ⟨K + 2, ?_⟩
  unfold laws_FnConsistencySound.f
  rw [lift (fun k => laws_zzFits2.mono l1 k) hz1 (show k1 ≤ K + 2 by omega), Option.bind_some]
  cases z1 with
  | false => rw [if_neg (by decide), laws_FnConsistencySound.j0, if_pos rfl]
  | true =>
  rw [if_pos rfl, lift (fun k => laws_zzFits2.mono l3 k) hz3 (show k3 ≤ K + 2 by omega), Option.bind_some]
  cases z3 with
  | false => rw [if_neg (by decide), laws_FnConsistencySound.j0, if_pos rfl]
  | true =>
  rw [if_pos rfl]
  obtain ⟨f1, f2⟩ := hfit1 rfl
  obtain ⟨f3, f4⟩ := hfit3 rfl
  obtain ⟨y1, hy1, hsm1⟩ := small l1 f1
  obtain ⟨y3, hy3, hsm3⟩ := small l3 f3
  rw [laws_FnConsistencySound.j0]
  by_cases h28 : (l4.length : Int) > 2147483647
  · rw [if_pos (decide_eq_true h28)]
  rw [if_neg (by rw [decide_eq_false h28]; decide)]
  unfold spec_Terms.f
  rw [Option.bind_some]
  by_cases h0 : (a0 != 1) = true
  case neg => rw [if_neg h0, laws_FnConsistencySound.j1, if_pos rfl]
  have ha0 : a0 ≠ 1 := bne_iff_ne.1 h0
  rw [if_pos h0, lift (fun k => laws_logSmall.mono l1 k) hy1 (show l1.length + 1 ≤ K + 1 by omega), Option.bind_some]
  cases y1 with
  | false => rw [if_neg (by decide), laws_FnConsistencySound.j1, if_pos rfl]
  | true =>
  rw [if_pos rfl, lift (fun k => laws_logSmall.mono l3 k) hy3 (show l3.length + 1 ≤ K + 1 by omega), Option.bind_some]
  cases y3 with
  | false => rw [if_neg (by decide), laws_FnConsistencySound.j1, if_pos rfl]
  | true =>
  rw [if_pos rfl]
  obtain ⟨g1, g2⟩ := hsm1 rfl
  obtain ⟨g3, g4⟩ := hsm3 rfl
  have hm1 := mem_bound g2
  have hm3 := mem_bound g4
  have hw : IntKind.u64.wrap (l1.length : Int) = (l1.length : Int) := u64in (by omega)
  rw [hw]
  by_cases h4 : (l4.length : Int) > 100000
  · rw [if_pos h4, laws_FnConsistencySound.j1, if_pos rfl]
  rw [if_neg h4]
  by_cases hs0 : (s : Int) = 0
  · rw [if_pos hs0, laws_FnConsistencySound.j1, if_pos rfl]
  rw [if_neg hs0, laws_FnConsistencySound.j1]
  by_cases hsn : (s : Int) > (l1.length : Int)
  · rw [if_pos (decide_eq_true hsn)]
  rw [if_neg (by rw [decide_eq_false hsn]; decide)]
  have htr := impl_TreeRoot.eq a0 b1 b2 a3 a4 a5 l1 g1 hm1 l1.length (Nat.le_refl _) (K - 1) (by omega)
  rw [show K - 1 + 1 = K by omega, List.take_of_length_le (Nat.le_refl _)] at htr
  rw [htr, Option.bind_some]
  dsimp only
  obtain ⟨o, v1, v2, v3⟩ := verC_sound a0 b1 b2 a3 a4 a5 ha0 l1 g1 hm1 hb1 s (by omega) (by omega) l3 g3 hm3 hb3 l4 (by omega) hb4 K (by omega)
  have hrl : (mth (hash a0 b2 a5) (empt a0 b2 a3) l1).length < 140737488355328 := by
    have := mth_length (hash_grows a0 b2 a5) (empt a0 b2 a3) 5000 _ l1 rfl (by omega) hm1
    have h5 := Nat.mul_le_mul_left (5000 + 9) g1
    omega
  have hv : impl_VerifyConsistency.f K a0 b1 b2 a3 a4 a5 (s : Int) (l1.length : Int) l3 l4 (mth (hash a0 b2 a5) (empt a0 b2 a3) l1) = some o := by
    unfold impl_VerifyConsistency.f
    rw [if_pos ⟨by omega, hrl⟩, texts_mem l3 (by omega) (fun x hx => Nat.le_trans (hm3 x hx) (by omega)) (by omega), Option.bind_some, if_pos ⟨by omega, by omega, by omega⟩, v1, Option.bind_some, if_pos v3]
  have hbt : ∀ p ∈ cpath s 0 l1.length true, Byt (mth (hash a0 b2 a5) (empt a0 b2 a3) (seg l1 p.1 p.2)) := by
    intro p hp
    obtain ⟨c1, c2⟩ := cpath_in s l1.length (by omega) (by omega) (by omega) p hp
    exact mth_byt _ (fun _ _ => hash_byt a0 b2 a5 ha0) _ (seg l1 p.1 p.2) (seg_length c2) (by omega) (fun x hx => hb1 x (List.mem_of_mem_take (List.mem_of_mem_drop hx)))
  have hbr : Byt (mth (hash a0 b2 a5) (empt a0 b2 a3) (l1.take s)) :=
    mth_byt _ (fun _ _ => hash_byt a0 b2 a5 ha0) s (l1.take s) (by rw [List.length_take]; omega) (by omega) (fun x hx => hb1 x (List.mem_of_mem_take hx))
  rw [hv, Option.bind_some, if_pos rfl, if_pos (by omega), if_pos (by omega), Int.toNat_natCast,
    spec_Root.eq a0 b1 b2 a3 a4 a5 s (l1.take s) (by rw [List.length_take]; omega) (by omega) (fun x hx => hm1 x (List.mem_of_mem_take hx)) K (by omega), Option.bind_some]
  unfold spec_SameText.f
  rw [Option.bind_some, eqS hb4 hbr, v2]
  by_cases g : l4 = mth (hash a0 b2 a5) (empt a0 b2 a3) (l1.take s)
  · rw [if_pos (decide_eq_true g), spec_Proof.eq a0 b1 b2 a3 a4 a5 l1 g1 hm1 s (by omega) (by omega) K (by omega), Option.bind_some]
    unfold spec_Same.f
    rw [Option.bind_some, sameL_eq hb3 (fun x hx => by obtain ⟨p, hp, rfl⟩ := List.mem_map.1 hx; exact hbt p hp), decide_eq_true g, Bool.true_and, beq_self_eq_true]
  · rw [decide_eq_false g, if_neg (by decide), Bool.false_and]; rfl
end Go.Proofs.YtielnphmcaecdaaDoor.Pure
namespace Go.Proofs.YtielnphmcaecdaaDoorW.PrintWords
open Go.RowKit Go.ChangeShapes Go.WideShapes
structure Opens {α : Type} (P : Program) (d : Kd α) (t : TypeId) (wf : α → Prop) : Prop where
  cells : P.cellsOf t = d.sz
  opens : ∀ {H : Type} {enc : TypeId × Value → H} {w : World} {base : Nat} {spare : Nat → Bool} {held : Bool} {n : Nat} {cs : List Value} {y : DataW H × List MemPlace},
    DataW.trod enc P w base spare held n t cs = some y → ∃ x, d.K w x cs ∧ wf x
theorem Opens.int {P : Program} {k : IntKind} {t : TypeId} (ht : P.underlying t = some (.int k)) (hc : P.cellsOf t = 1) : Opens P (Kd.int k) t (fun x => (Lit.int k x).wf = true) where
  cells := hc
  opens := fun h => by
    obtain ⟨n, rfl, _, hw⟩ := DataW.trod_int ht h
    exact ⟨n, rfl, hw⟩
theorem cells_of {w : World} {base : Nat} {a : Addr} {m : Nat} {cs : List Value} (h : w.cells? base a m = some cs) : cs.length = m ∧ ∀ i u, cs[i]? = some u → w.cell? (a.add i) = some u := by
  obtain ⟨_, h1, h2⟩ := World.cells?_some h
  exact ⟨h1, fun i u hu => (h2 i (by have := (List.getElem?_eq_some_iff.1 hu).1; omega)).trans hu⟩
theorem Opens.slice {α : Type} {P : Program} {d : Kd α} {t e : TypeId} {wf : α → Prop} (hd : Opens P d e wf) (ht : P.underlying t = some (.slice e)) (hc : P.cellsOf t = 1) :
    Opens P (Kd.slice e d) t (fun xs => xs.length ≤ maxLen ∧ ∀ x ∈ xs, wf x) where
  cells := hc
  opens := fun {H enc w base spare held n cs y} h => by
    rcases Deep.open_slice ht h with ⟨rfl, _⟩ | ⟨a, len, cap, m, n', D, Pl, rfl, _, hl, hm, hmm, _, hi⟩
    · exact ⟨[], ⟨none, 0, rfl, Nat.le_refl _, rfl, by simp, fun h => absurd h (by simp)⟩, by simp, fun x hx => by simp at hx⟩
    · have hle : len ≤ m := by rw [hmm]; split <;> omega
      have hx : ∀ i, i < len → ∃ x : α, wf x ∧ ∃ cs', d.K w x cs' ∧ w.cells? base (a.add (i * P.cellsOf e)) (P.cellsOf e) = some cs' := fun i h2 => by
        obtain ⟨cs', h3, h4⟩ := hi i (by omega)
        obtain ⟨x, h5, h6⟩ := hd.opens h4
        exact ⟨x, h6, cs', h5, h3⟩
      have hlist : ∀ j, j ≤ len → ∃ xs : List α, xs.length = j ∧ (∀ x ∈ xs, wf x) ∧ ∀ (i : Nat) p, xs[i]? = some p → ∃ cs', d.K w p cs' ∧ w.cells? base (a.add (i * P.cellsOf e)) (P.cellsOf e) = some cs' := by
        intro j
        induction j with
        | zero => exact fun _ => ⟨[], rfl, fun x hx => by simp at hx, fun i p hp => by simp at hp⟩
        | succ j ih =>
          intro hj
          obtain ⟨xs, h1, h2, h3⟩ := ih (by omega)
          obtain ⟨x, h4, cs', h5, h6⟩ := hx j (by omega)
          refine ⟨xs ++ [x], by simp [h1], fun z hz => ?_, fun i p hp => ?_⟩
          · rcases List.mem_append.1 hz with h7 | h7
            · exact h2 z h7
            · rw [List.mem_singleton.1 h7]; exact h4
          · by_cases hij : i < xs.length
            · rw [List.getElem?_append_left hij] at hp
              exact h3 i p hp
            · rw [List.getElem?_append_right (by omega)] at hp
              have : i = j := by
                have := (List.getElem?_eq_some_iff.1 hp).1
                simp at this; omega
              subst this
              rw [h1, Nat.sub_self] at hp
              simp at hp
              subst hp
              exact ⟨cs', h5, h6⟩
      obtain ⟨xs, h1, h2, h3⟩ := hlist len (Nat.le_refl _)
      subst h1
      refine ⟨xs, ⟨some a, cap, rfl, hl, rfl, by unfold maxLen at hm; omega, fun _ => ⟨a, rfl, fun j p hp => ?_⟩⟩, by omega, h2⟩
      obtain ⟨cs', h4, h5⟩ := h3 j p hp
      obtain ⟨h6, h7⟩ := cells_of h5
      refine ⟨cs', d.K_len h4, h4, fun i u hu => ?_⟩
      have := h7 i u hu
      rwa [Deep.add_add, hd.cells] at this
structure OpensFs {α : Type} (P : Program) (d : Kd α) (fs : List Field) (off : Nat) (wf : α → Prop) : Prop where
  opens : ∀ {H : Type} {enc : TypeId × Value → H} {w : World} {base : Nat} {spare : Nat → Bool} {held : Bool} {n : Nat} {cs : List Value},
    (∀ f ∈ fs, ∃ y, DataW.trod enc P w base spare held n f.type ((cs.drop f.offset).take (P.cellsOf f.type)) = some y) → ∃ x, d.K w x ((cs.drop off).take d.sz) ∧ wf x
theorem OpensFs.last {α : Type} {P : Program} {d : Kd α} {f : Field} {off : Nat} {wf : α → Prop} (h : Opens P d f.type wf) (ho : f.offset = off) : OpensFs P d [f] off wf where
  opens := fun hf => by
    obtain ⟨y, hy⟩ := hf f (by simp)
    rw [h.cells, ho] at hy
    exact h.opens hy
theorem OpensFs.cons {α β : Type} {P : Program} {d : Kd α} {d' : Kd β} {f : Field} {fs : List Field} {off : Nat} {wf : α → Prop} {wf' : β → Prop} (h : Opens P d f.type wf) (ho : f.offset = off) (h' : OpensFs P d' fs (off + d.sz) wf') :
    OpensFs P (Kd.pair d d') (f :: fs) off (fun x => wf x.1 ∧ wf' x.2) where
  opens := fun {H enc w base spare held n cs} hf => by
    obtain ⟨y, hy⟩ := hf f (by simp)
    rw [h.cells, ho] at hy
    obtain ⟨x, h1, h2⟩ := h.opens hy
    obtain ⟨x', h3, h4⟩ := h'.opens (cs := cs) fun g hg => hf g (by simp [hg])
    exact ⟨(x, x'), ⟨_, _, by rw [show (Kd.pair d d').sz = d.sz + d'.sz from rfl, List.take_add, List.drop_drop], h1, h3⟩, h2, h4⟩
theorem Opens.struct {α β : Type} {P : Program} {d : Kd α} {t : TypeId} {fs : Array Field} {wf : α → Prop} (ht : P.underlying t = some (.struct fs)) (h : OpensFs P d fs.toList 0 wf) (hc : P.cellsOf t = d.sz) (f : β → α) (g : α → β) (hfg : ∀ a, f (g a) = a) :
    Opens P (Kd.iso d f) t (fun x => wf (f x)) where
  cells := hc
  opens := fun {H enc w base spare held n cs y} hy => by
    obtain ⟨xs, m, _, _, hl, hn, hi⟩ := DataW.trod_struct ht hy
    obtain ⟨x, h1, h2⟩ := h.opens (cs := cs) (enc := enc) (n := m) fun f0 hf0 => by
      obtain ⟨i, hlt, rfl⟩ := List.mem_iff_getElem.1 hf0
      rw [Array.length_toList] at hlt
      have h3 := hi i fs[i] (Array.getElem?_eq_getElem hlt)
      have h4 : i < xs.length := by rw [hn]; exact hlt
      rw [List.getElem?_eq_getElem h4] at h3
      exact ⟨_, by simpa using h3⟩
    rw [List.drop_zero, List.take_of_length_le (by rw [hl, hc]; exact Nat.le_refl _)] at h1
    exact ⟨g x, by show d.K w (f (g x)) cs; rw [hfg]; exact h1, by rw [hfg]; exact h2⟩
section
variable {H : Type} {enc : TypeId × Value → H} {P : Program} {w : World} {base : Nat} {spare : Nat → Bool} {held : Bool} {r : Reach} {b0 : Nat} {t : TypeId} {v : Value} {dat : DataW H} {p : List MemPlace}
theorem Opens.arg_slice {α : Type} {d : Kd α} {e : TypeId} {wf : List α → Prop} (h : Opens P (Kd.slice e d) t wf) (ht : P.underlying t = some (.slice e)) (hv : Value.okWide P w r b0 t v) (hT : DataW.Trod enc P w base spare held t v dat p) :
    ∃ (A : Option Addr) (xs : List α) (c : Nat), v = .slice A xs.length c ∧ xs.length ≤ c ∧ d.C w A xs.length xs ∧ wf xs := by
  obtain ⟨a, len, cap, rfl⟩ := okWide_slice ht hv
  obtain ⟨fuel, hf⟩ := hT
  obtain ⟨xs, ⟨A, c, hcs, hle, hC⟩, hw⟩ := h.opens hf
  simp [Value.cells] at hcs
  obtain ⟨rfl, rfl, rfl⟩ := hcs
  exact ⟨_, xs, _, rfl, hle, hC, hw⟩
theorem Opens.arg_struct {α : Type} {d : Kd α} {fs : Array Field} {wf : α → Prop} (h : Opens P d t wf) (ht : P.underlying t = some (.struct fs)) (hv : Value.okWide P w r b0 t v) (hT : DataW.Trod enc P w base spare held t v dat p) :
    ∃ (x : α) (cs : List Value), v = .agg cs.toArray ∧ d.K w x cs ∧ wf x := by
  obtain ⟨cs, rfl, _⟩ := okWide_struct ht hv
  obtain ⟨fuel, hf⟩ := hT
  obtain ⟨x, h1, h2⟩ := h.opens hf
  exact ⟨x, cs.toList, by simp, h1, h2⟩
end
end Go.Proofs.YtielnphmcaecdaaDoorW.PrintWords
