-- Written by a program of this session (wip/tools)
import Derived.Test.YtielnphmcaecdaaDoorQCHConsOf
import Derived.Test.YtielnphmcaecdaaDoorQCHExtHashes
import Derived.Test.YtielnphmcaecdaaDoorQCHPAllx15
namespace Go.Proofs.YtielnphmcaecdaaDoor.PAll
open Go.RowKit Go.Proofs.YtielnphmcaecdaaDoor.Num Go.Proofs.YtielnphmcaecdaaDoor.Mth Go.Proofs.YtielnphmcaecdaaDoorW.PrintWords Go.Proofs.YtielnphmcaecdaaDoorW.PrintLast
set_option linter.unusedVariables false
set_option linter.unusedSimpArgs false
theorem cpath_len (s b e : Nat) (w : Bool) : (cpath s b e w).length ≤ blen (e - b - 1) + 1 := by
  induction hn : e - b using Nat.strongRecOn generalizing b e w with
  | _ d ih =>
  subst hn
  by_cases h1 : s = e
  · subst h1; rw [cpath_end]; split <;> simp
  · by_cases h2 : e - b ≤ 1
    · rw [cpath, if_neg h1, dif_pos h2]; simp
    · have p1 := psplit_lt (n := e - b) (by omega)
      have p2 := psplit_pos (e - b)
      have p3 := le_psplit (n := e - b) (by omega)
      have hL := blen_pos (n := e - b - 1) (by omega)
      have hp : psplit (e - b) = 2 ^ (blen (e - b - 1) - 1) := rfl
      by_cases h3 : s ≤ b + psplit (e - b)
      · rw [cpath_left (by omega) h1 h3, List.length_append]
        have := ih (b + psplit (e - b) - b) (by omega) b (b + psplit (e - b)) w rfl
        have h4 : blen (b + psplit (e - b) - b - 1) ≤ blen (e - b - 1) - 1 := blen_le.2 (by omega)
        simp only [List.length_singleton]; omega
      · rw [cpath_right (by omega) h1 (by omega), List.length_append]
        have := ih (e - (b + psplit (e - b))) (by omega) (b + psplit (e - b)) e false rfl
        have h4 : blen (e - (b + psplit (e - b)) - 1) ≤ blen (e - b - 1) - 1 := blen_le.2 (by omega)
        simp only [List.length_singleton]; omega
theorem spec_proofIn.eq (s : Nat) (b e : Nat) (w : Bool) (hbe : b < e) (hs : b < s) (hse : s ≤ e) (he : e < 18446744073709551616) (k : Nat) (hk : e - b + 66 ≤ k) : spec_proofIn.f k (s : Int) (b : Int) (e : Int) w = some ((cpath s b e w).map prt) := by
  induction hn : e - b using Nat.strongRecOn generalizing b e k w with
  | _ n ih =>
  subst hn
  obtain ⟨k, rfl⟩ : ∃ m, k = m + 1 := ⟨k - 1, by omega⟩
  rw [spec_proofIn.f]
  by_cases h1 : s = e
  · subst h1
    rw [if_pos rfl, cpath_end]
    cases w
    · rw [if_neg (by decide), if_neg (by decide)]; rfl
    · rw [if_pos rfl, if_pos rfl]; rfl
  · have p1 := psplit_lt (n := e - b) (by omega)
    have p2 := psplit_pos (e - b)
    rw [if_neg (by omega), u64sub (by omega) he, spec_split.eq (e - b) (by omega) (by omega) k (by omega), Option.bind_some, u64add (a := b) (b := psplit (e - b)) (by omega)]
    by_cases h3 : s ≤ b + psplit (e - b)
    · rw [if_pos (by omega), ih (b + psplit (e - b) - b) (by omega) b (b + psplit (e - b)) w (by omega) hs h3 (by omega) k (by omega) rfl, cpath_left (by omega) h1 h3]
      have hl := cpath_len s b (b + psplit (e - b)) w
      have hl2 := blen_lt64 (n := b + psplit (e - b) - b - 1) (by omega)
      rw [Option.bind_some, Option.bind_some, if_pos (by simp only [List.length_map, List.length_cons, List.length_nil]; omega), List.map_append]
      rfl
    · rw [if_neg (by omega), ih (e - (b + psplit (e - b))) (by omega) (b + psplit (e - b)) e false (by omega) (by omega) hse he k (by omega) rfl, cpath_right (s := s) (b := b) (e := e) (by omega) h1 (by omega) w]
      have hl := cpath_len s (b + psplit (e - b)) e false
      have hl2 := blen_lt64 (n := e - (b + psplit (e - b)) - 1) (by omega)
      rw [Option.bind_some, Option.bind_some, if_pos (by simp only [List.length_map, List.length_cons, List.length_nil]; omega), List.map_append]
      rfl
theorem spec_ProofParts.eq (s n : Nat) (h0 : 0 < s) (hs : s ≤ n) (hn : n < 18446744073709551616) (k : Nat) (hk : n + 66 ≤ k) : spec_ProofParts.f k (s : Int) (n : Int) = some ((cpath s 0 n true).map prt) := by
  unfold spec_ProofParts.f
  rw [show (0 : Int) = ((0 : Nat) : Int) from rfl, spec_proofIn.eq s 0 n true (by omega) h0 hs hn k (by omega)]
  rfl
theorem odd_and {M : Nat} (h : M % 2 = 1) : M &&& (M - 1) = M - 1 := by
  have h1 := Nat.and_div_two (a := M) (b := M - 1)
  have h2 := Nat.and_mod_two_pow (a := M) (b := M - 1) (n := 1)
  rw [Nat.pow_one, h, show (M - 1) % 2 = 0 by omega] at h2
  rw [show (M - 1) / 2 = M / 2 by omega, Nat.and_self] at h1
  have h3 : (1 &&& 0 : Nat) = 0 := rfl
  omega
theorem last_and {l M s : Nat} (hM : M % 2 = 1) (hs : s = 2 ^ l * M) : s &&& (s - 1) = (M - 1) * 2 ^ l := by
  have hp := Nat.two_pow_pos l
  have h1 := Nat.and_div_two_pow (a := s) (b := s - 1) (n := l)
  have h2 := Nat.and_mod_two_pow (a := s) (b := s - 1) (n := l)
  have e1 : s / 2 ^ l = M := by rw [hs]; exact Nat.mul_div_cancel_left _ hp
  have e2 : s % 2 ^ l = 0 := by rw [hs]; exact Nat.mul_mod_right _ _
  have e3 : (s - 1) / 2 ^ l = M - 1 := by
    apply Nat.div_eq_of_lt_le
    · have : s = (M - 1) * 2 ^ l + 2 ^ l := by rw [hs, Nat.mul_comm, ← Nat.succ_mul]; congr 1; omega
      omega
    · have : s = (M - 1 + 1) * 2 ^ l := by rw [hs, Nat.mul_comm]; congr 1; omega
      have h0 : 0 < s := by rw [hs]; exact Nat.mul_pos hp (by omega)
      show s - 1 < (M - 1).succ * 2 ^ l
      rw [show (M - 1).succ = M - 1 + 1 from rfl]
      omega
  rw [e1, e3, odd_and hM] at h1
  rw [e2, Nat.zero_and] at h2
  have := Nat.div_add_mod (s &&& (s - 1)) (2 ^ l)
  rw [h1, h2, Nat.mul_comm] at this
  omega
theorem fork_loop (i n : Nat) (hi : i < n) (hn : n < 18446744073709551616) (d : Nat) : ∀ z k, z + d = fork i n - 1 → d < k → spec_fork.l0 k (n : Int) (z : Int) ((i / 2 ^ z : Nat) : Int) = some (((fork i n - 1 : Nat) : Int), ((n / 2 ^ (fork i n - 1) : Nat) : Int)) := by
  have hf := fork_64 (Nat.lt_trans hi hn) hn
  have hp := fork_pos hi
  have h2 : ∀ x z : Nat, ((x / 2 ^ z : Nat) : Int) / 2 = ((x / 2 ^ (z + 1) : Nat) : Int) := fun x z => by rw [Nat.pow_succ, ← Nat.div_div_eq_div_mul]; omega
  induction d with
  | zero =>
    intro z k hz hk
    obtain ⟨k, rfl⟩ : ∃ m, k = m + 1 := ⟨k - 1, by omega⟩
    have e : i / 2 ^ (z + 1) = n / 2 ^ (z + 1) := fork_le.1 (by omega)
    rw [spec_fork.l0, if_pos (Int.natCast_nonneg _), shr64' _ _ hn, h2, h2, if_pos (by rw [e]), show fork i n - 1 = z by omega]
  | succ d ih =>
    intro z k hz hk
    obtain ⟨k, rfl⟩ : ∃ m, k = m + 1 := ⟨k - 1, by omega⟩
    have e : i / 2 ^ (z + 1) ≠ n / 2 ^ (z + 1) := fun h => by have := fork_le.2 h; omega
    rw [spec_fork.l0, if_pos (Int.natCast_nonneg _), shr64' _ _ hn, h2, h2, if_neg (by omega), show IntKind.u64.wrap ((z : Int) + 1) = ((z + 1 : Nat) : Int) from u64add (b := 1) (by omega)]
    exact ih (z + 1) k (by omega) (by omega)
theorem fork_node (l M s n : Nat) (hM : M % 2 = 1) (hs : s = 2 ^ l * M) (hlt : s < n) (hn : n < 18446744073709551616) (k : Nat) (hk : 100 ≤ k) : ∃ z1 z2, spec_fork.f k (l : Int) ((M - 1 : Nat) : Int) (n : Int) = some (z1, z2) := by
  have hp := Nat.two_pow_pos l
  have h0 : 0 < s := by rw [hs]; exact Nat.mul_pos hp (by omega)
  have h1 : (s - 1) / 2 ^ l = M - 1 := by
    apply Nat.div_eq_of_lt_le
    · have : s = (M - 1) * 2 ^ l + 2 ^ l := by rw [hs, Nat.mul_comm, ← Nat.succ_mul]; congr 1; omega
      omega
    · have : s = (M - 1 + 1) * 2 ^ l := by rw [hs, Nat.mul_comm]; congr 1; omega
      show s - 1 < (M - 1).succ * 2 ^ l
      rw [show (M - 1).succ = M - 1 + 1 from rfl]
      omega
  have h2 : l < fork (s - 1) n := by
    apply Nat.lt_of_not_le; intro h
    have h3 := fork_le.1 h
    rw [h1] at h3
    have : M ≤ n / 2 ^ l := (Nat.le_div_iff_mul_le hp).2 (by rw [Nat.mul_comm, ← hs]; omega)
    omega
  have hf := fork_64 (i := s - 1) (n := n) (by omega) hn
  have := fork_loop (s - 1) n (by omega) hn (fork (s - 1) n - 1 - l) l k (by omega) (by omega)
  rw [h1] at this
  exact ⟨_, _, this⟩
theorem sk_end_pos (c l n : Nat) : ((skEnd c l n : Int) > 0 ↔ (Nds 0 (ndE c l n) n).length ≠ 0) := by
  unfold skEnd
  split <;> omega
theorem spec_ConsistencyProof.eq (s n : Nat) (hs : s ≤ n) (hn : n < 18446744073709551616) (K : Nat) (hK : n + 30000 ≤ K) :
    ∃ z1 z2, spec_ConsistencyProof.f K (s : Int) (n : Int) = some ((conPlan s n).1.map inode, z1, z2, ((conPlan s n).2.1 : Int), ((conPlan s n).2.2 : Int)) := by
  obtain ⟨k, rfl⟩ : ∃ k, K = k + 2 := ⟨K - 2, by omega⟩
  unfold spec_ConsistencyProof.f conPlan
  by_cases h0 : s = 0
  · subst h0
    rw [if_pos (show ((0 : Nat) : Int) = 0 from rfl), spec_ConsistencyProof.j0, if_pos rfl, if_pos (.inr rfl)]
    exact ⟨0, 0, rfl⟩
  · rw [if_neg (by omega)]
    by_cases h1 : s = n
    · subst h1
      rw [spec_ConsistencyProof.j0, if_pos (by simp), if_pos (.inl rfl)]
      exact ⟨0, 0, rfl⟩
    · rw [spec_ConsistencyProof.j0, if_neg (by simp; omega), if_neg (by omega)]
      obtain ⟨o1, o2⟩ := lev_odd (s := s) (by omega)
      obtain ⟨o3, o4⟩ := lev_facts (s := s) (n := n) (by omega) (by omega) hn
      generalize lev s (2 * s) = l at o1 o2 o3 o4 ⊢
      generalize s / 2 ^ l = M at o1 o2 o4 ⊢
      have hlast : spec_last.f (s : Int) = some ((((M - 1) * 2 ^ l : Nat) : Int), (((M - 1 + 1) * 2 ^ l : Nat) : Int)) := by
        unfold spec_last.f
        rw [show ((s : Int) - 1) = ((s - 1 : Nat) : Int) by omega, u64in (by omega), and64 _ _ (by omega) (by omega), last_and o2 o1]
        rw [show s = (M - 1 + 1) * 2 ^ l by rw [o1, Nat.mul_comm, show M - 1 + 1 = M by omega]]
      have hseq : (M - 1 + 1) * 2 ^ l = s := by rw [o1, Nat.mul_comm, show M - 1 + 1 = M by omega]
      have hlt : (M - 1 + 1) * 2 ^ l < 18446744073709551616 := by rw [hseq]; omega
      obtain ⟨g1, g2, g3⟩ := path_node l M s n o2 o1 (by omega)
      obtain ⟨z1, z2, hfk⟩ := fork_node l M s n o2 o1 (by omega) hn k (by omega)
      have hpo := proofOf_node (M - 1) l n o3 o4 hn k (by omega)
      have hno := nodeOf_eq l (M - 1) hlt
      have hnd := sk_end_pos (M - 1) l n
      obtain ⟨lk1, lk2, lk3⟩ := skIds_len (M - 1) l n o3 o4 hn
      have hp := Nat.two_pow_pos l
      rw [hlast, Option.bind_some, spec_ProofParts.eq s n (by omega) hs hn (k + 1) (by omega), Option.bind_some, g3]
      refine ⟨z1, z2, ?_⟩
      by_cases hM1 : M = 1
      · subst hM1
        rw [if_neg (by simp), if_pos rfl, if_pos rfl, spec_ConsistencyProof.j1, List.nil_append, hpo, Option.bind_some]
        dsimp only
        by_cases hz : (skEnd (1 - 1) l n : Int) > 0
        · rw [if_pos hz, if_pos (by simp only [List.length_nil, List.length_map]; omega), hno k (by omega), Option.bind_some, hfk, Option.bind_some, List.nil_append]
          have e1 : wrap64 ((skBegin (1 - 1) l n : Int) + ((([] : List S49).length : Nat) : Int)) = (skBegin (1 - 1) l n : Int) := by
            rw [List.length_nil]; unfold wrap64; omega
          have e2 : wrap64 ((skEnd (1 - 1) l n : Int) + ((([] : List S49).length : Nat) : Int)) = (skEnd (1 - 1) l n : Int) := by
            rw [List.length_nil]; unfold wrap64; omega
          rw [e1, e2]
        · rw [if_neg hz, if_pos (by simp only [List.length_nil, List.length_map]; omega), hno k (by omega), Option.bind_some, hfk, Option.bind_some, List.nil_append]
      · have hpos : 0 < (M - 1) * 2 ^ l := Nat.mul_pos (by omega) hp
        rw [if_pos (by omega), hno (k + 1) (by omega), Option.bind_some, if_neg hM1, if_neg hM1, List.map_append, if_pos (by simp only [List.length_append, List.length_map, List.length_singleton]; omega)]
        have hdr : (List.map prt [lvs (l, M - 1)] ++ List.map prt (nParts (M - 1) l n)).drop (1 : Int).toNat = List.map prt (nParts (M - 1) l n) := rfl
        rw [hdr, spec_ConsistencyProof.j1, hpo, Option.bind_some]
        dsimp only
        have hids : ndIds (M - 1) l n = (l, M - 1) :: skIds (M - 1) l n := rfl
        have hcons : ([(⟨(l : Int), ((M - 1 : Nat) : Int)⟩ : S49)] : List S49) ++ (skIds (M - 1) l n).map inode = (ndIds (M - 1) l n).map inode := rfl
        by_cases hz : (skEnd (M - 1) l n : Int) > 0
        · rw [if_pos hz, if_pos (by simp only [List.length_singleton, List.length_map]; omega), hno k (by omega), Option.bind_some, hfk, Option.bind_some, hcons]
          have hne := hnd.1 hz
          have e1 : wrap64 ((skBegin (M - 1) l n : Int) + (((([(⟨(l : Int), ((M - 1 : Nat) : Int)⟩ : S49)] : List S49).length : Nat)) : Int)) = (ndBegin (M - 1) l n : Int) := by
            have f1 : skBegin (M - 1) l n = ndM (M - 1) l n := by unfold skBegin; rw [if_neg hne]
            have f2 : ndBegin (M - 1) l n = 1 + ndM (M - 1) l n := by unfold ndBegin; rw [if_neg hne]
            rw [f1] at lk2
            rw [List.length_singleton, f1, f2]; unfold wrap64; omega
          have e2 : wrap64 ((skEnd (M - 1) l n : Int) + (((([(⟨(l : Int), ((M - 1 : Nat) : Int)⟩ : S49)] : List S49).length : Nat)) : Int)) = (ndEnd (M - 1) l n : Int) := by
            have f1 : skEnd (M - 1) l n = ndM (M - 1) l n + (Nds 0 (ndE (M - 1) l n) n).length := by unfold skEnd; rw [if_neg hne]
            have f2 : ndEnd (M - 1) l n = 1 + ndM (M - 1) l n + (Nds 0 (ndE (M - 1) l n) n).length := by unfold ndEnd; rw [if_neg hne]
            rw [f1] at lk1
            rw [List.length_singleton, f1, f2]; unfold wrap64; omega
          rw [e1, e2]
        · have hze : (Nds 0 (ndE (M - 1) l n) n).length = 0 := by
            apply Classical.byContradiction; intro h; exact hz (hnd.2 h)
          rw [if_neg hz, if_pos (by simp only [List.length_singleton, List.length_map]; omega), hno k (by omega), Option.bind_some, hfk, Option.bind_some, hcons]
          have e1 : skBegin (M - 1) l n = ndBegin (M - 1) l n := by unfold skBegin ndBegin; rw [if_pos hze, if_pos hze]
          have e2 : skEnd (M - 1) l n = ndEnd (M - 1) l n := by unfold skEnd ndEnd; rw [if_pos hze, if_pos hze]
          rw [e1, e2]
end Go.Proofs.YtielnphmcaecdaaDoor.PAll
