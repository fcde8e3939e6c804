-- Written by a program of this session (wip/tools)
import Derived.Test.YtielnphmcaecdaaDoorQCHExtHashW
namespace Go.Proofs.YtielnphmcaecdaaDoor.PAll
open Go.IntWalk Go.RowKit Go.Proofs.YtielnphmcaecdaaDoor.Num Go.Proofs.YtielnphmcaecdaaDoor.Mth Go.Proofs.YtielnphmcaecdaaDoorW.PrintWords Go.Proofs.YtielnphmcaecdaaDoorW.PrintLast Go.Proofs.YtielnphmcaecdaaDoorW.PrintMore
set_option linter.unusedVariables false
theorem upB_mono {H H' : List Int → List Int → Option (List Int)} (h : ∀ a b, LeO (H a b) (H' a b)) : ∀ l s, LeO (upB_ H l s) (upB_ H' l s)
  | [], s => LeO.refl _
  | x :: xs, s => LeO.bind (h x s) (fun t => upB_mono h xs t)
def hashF (k : Nat) (a0 a1 a2 a3 a4 a5 : Int) (n b e : Nat) (l : List (List Int)) : Option (List (List Int) × Bool) :=
  (impl_texts.f k l).bind fun xs => if xs.length = n then (if b < e then upB_ (impl_toy_HashChildren.f k a0 a1 a2 a3 a4 a5) ((xs.take e).drop (b + 1)) (xs.getD b []) else some []).bind fun f => (impl_texts.f k (rehL b e xs f)).bind fun r => some (r, true)
    else (impl_texts.f k []).bind fun r => some (r, false)
theorem hashF_mono (k : Nat) (a0 a1 a2 a3 a4 a5 : Int) (n b e : Nat) (l : List (List Int)) : LeO (hashF k a0 a1 a2 a3 a4 a5 n b e l) (hashF (k + 1) a0 a1 a2 a3 a4 a5 n b e l) := by
  unfold hashF
  refine LeO.bind (impl_texts.mono _ _) (fun x => LeO.ite (LeO.bind (LeO.ite (upB_mono (fun a b => impl_toy_HashChildren.mono _ _ _ _ _ _ _ _ _) _ _) (LeO.refl _)) (fun f => LeO.bind (impl_texts.mono _ _) (fun r => LeO.refl _))) (LeO.bind (impl_texts.mono _ _) (fun r => LeO.refl _)))
def conPlan (s n : Nat) : List (Nat × Nat) × Nat × Nat :=
  if s = n ∨ s = 0 then ([], 0, 0) else if s / 2 ^ lev s (2 * s) = 1 then (skIds (s / 2 ^ lev s (2 * s) - 1) (lev s (2 * s)) n, skBegin (s / 2 ^ lev s (2 * s) - 1) (lev s (2 * s)) n, skEnd (s / 2 ^ lev s (2 * s) - 1) (lev s (2 * s)) n)
    else (ndIds (s / 2 ^ lev s (2 * s) - 1) (lev s (2 * s)) n, ndBegin (s / 2 ^ lev s (2 * s) - 1) (lev s (2 * s)) n, ndEnd (s / 2 ^ lev s (2 * s) - 1) (lev s (2 * s)) n)
theorem lev_odd {s : Nat} (h : 0 < s) : s = 2 ^ lev s (2 * s) * (s / 2 ^ lev s (2 * s)) ∧ s / 2 ^ lev s (2 * s) % 2 = 1 := by
  obtain ⟨h1, h2, h3⟩ := lev_spec s (2 * s) (by omega)
  have e : s = 2 ^ lev s (2 * s) * (s / 2 ^ lev s (2 * s)) := by
    have := Nat.div_add_mod s (2 ^ lev s (2 * s)); omega
  refine ⟨e, ?_⟩
  rcases Nat.mod_two_eq_zero_or_one (s / 2 ^ lev s (2 * s)) with h4 | h4
  · exfalso
    obtain ⟨q, hq⟩ : ∃ q, s / 2 ^ lev s (2 * s) = 2 * q := ⟨s / 2 ^ lev s (2 * s) / 2, by omega⟩
    have e2 : s = 2 ^ (lev s (2 * s) + 1) * q := by
      rw [Nat.pow_succ, Nat.mul_assoc, ← hq]; exact e
    have h5 : s % 2 ^ (lev s (2 * s) + 1) = 0 := by
      have := Nat.mul_mod_right (2 ^ (lev s (2 * s) + 1)) q
      rw [← e2] at this; exact this
    have h6 := h3 h5
    have hq0 : 0 < q := by
      rcases Nat.eq_zero_or_pos q with h | h
      · rw [h, Nat.mul_zero] at e2; omega
      · exact h
    have : 2 ^ (lev s (2 * s) + 1) ≤ 2 ^ (lev s (2 * s) + 1) * q := Nat.le_mul_of_pos_right _ hq0
    omega
  · exact h4
theorem ndS_len (i l n : Nat) : (ndS i l n).length = ndM i l n := by unfold ndS; simp
theorem skIds_len (i l n : Nat) (hl : l ≤ 63) (hi : i < n / 2 ^ l) (hn : n < 18446744073709551616) : skEnd i l n ≤ (skIds i l n).length ∧ skBegin i l n ≤ skEnd i l n ∧ (skIds i l n).length ≤ 400 := by
  have lenR : (Nds 0 (ndE i l n) n).length ≤ 128 := Nds_len 0 _ _ 64 hn
  have lenL : (Nds 0 0 (ndB i l n)).length ≤ 128 := Nds_len 0 _ _ 64 (by have := ndB_lt i l n hi; omega)
  have hm := ndM_le i l n hl hi hn
  unfold skEnd skBegin skIds
  rw [List.length_append, List.length_append, List.length_reverse, List.length_reverse, ndS_len]
  split <;> omega
theorem ndIds_len (i l n : Nat) (hl : l ≤ 63) (hi : i < n / 2 ^ l) (hn : n < 18446744073709551616) : ndEnd i l n ≤ (ndIds i l n).length ∧ ndBegin i l n ≤ ndEnd i l n ∧ (ndIds i l n).length ≤ 400 := by
  have lenR : (Nds 0 (ndE i l n) n).length ≤ 128 := Nds_len 0 _ _ 64 hn
  have lenL : (Nds 0 0 (ndB i l n)).length ≤ 128 := Nds_len 0 _ _ 64 (by have := ndB_lt i l n hi; omega)
  have hm := ndM_le i l n hl hi hn
  unfold ndEnd ndBegin ndIds
  rw [List.length_cons, List.length_append, List.length_append, List.length_reverse, List.length_reverse, ndS_len]
  split <;> omega
theorem odd_pos {M : Nat} (h : M % 2 = 1) : 1 ≤ M := by omega
theorem lev_facts {s n : Nat} (h : 0 < s) (hlt : s < n) (hn : n < 18446744073709551616) : lev s (2 * s) ≤ 63 ∧ s / 2 ^ lev s (2 * s) - 1 < n / 2 ^ lev s (2 * s) := by
  obtain ⟨e, ho⟩ := lev_odd h
  have hp := Nat.two_pow_pos (lev s (2 * s))
  constructor
  · apply Nat.le_of_not_lt; intro h1
    have h2 := Nat.pow_le_pow_right (n := 2) (by decide) (show 64 ≤ lev s (2 * s) by omega)
    have h3 : 2 ^ lev s (2 * s) ≤ s := Nat.le_trans (Nat.le_mul_of_pos_right _ (odd_pos ho)) (Nat.le_of_eq e.symm)
    have : 2 ^ 64 = 18446744073709551616 := by decide
    omega
  · have h3 : s / 2 ^ lev s (2 * s) ≤ n / 2 ^ lev s (2 * s) := Nat.div_le_div_right (Nat.le_of_lt hlt)
    have h4 : 1 ≤ s / 2 ^ lev s (2 * s) := odd_pos ho
    exact Nat.lt_of_lt_of_le (Nat.sub_lt h4 Nat.one_pos) h3
theorem conPlan_len (s n : Nat) (hle : s ≤ n) (hn : n < 18446744073709551616) : (conPlan s n).2.2 ≤ (conPlan s n).1.length ∧ (conPlan s n).2.1 ≤ (conPlan s n).2.2 ∧ (conPlan s n).1.length ≤ 400 := by
  unfold conPlan
  by_cases h : s = n ∨ s = 0
  · rw [if_pos h]; simp
  · rw [if_neg h]
    obtain ⟨h1, h2⟩ := lev_facts (s := s) (n := n) (by omega) (by omega) hn
    split
    · exact skIds_len _ _ _ h1 h2 hn
    · exact ndIds_len _ _ _ h1 h2 hn
def impl_InclusionHashes.f (k : Nat) (a0 a1 a2 a3 a4 a5 x1 x2 : Int) (l : List (List Int)) : Option (List (List Int) × Bool) :=
  if x2 ≤ x1 then some ([], false) else if 0 ≤ x1 ∧ x2 < 18446744073709551616 then hashF k a0 a1 a2 a3 a4 a5 (incIds x1.toNat x2.toNat).length (incBegin x1.toNat x2.toNat) (incEnd x1.toNat x2.toNat) l else none
theorem impl_InclusionHashes.mono : ∀ a0 a1 a2 a3 a4 a5 x1 x2 l k, LeO (impl_InclusionHashes.f k a0 a1 a2 a3 a4 a5 x1 x2 l) (impl_InclusionHashes.f (k + 1) a0 a1 a2 a3 a4 a5 x1 x2 l) := by
  intro a0 a1 a2 a3 a4 a5 x1 x2 l k
  unfold impl_InclusionHashes.f
  exact LeO.ite (LeO.refl _) (LeO.ite (hashF_mono _ _ _ _ _ _ _ _ _ _ _) (LeO.refl _))
def impl_ConsistencyHashes.f (k : Nat) (a0 a1 a2 a3 a4 a5 x1 x2 : Int) (l : List (List Int)) : Option (List (List Int) × Bool) :=
  if x2 < x1 then some ([], false) else if 0 ≤ x1 ∧ x2 < 18446744073709551616 then hashF k a0 a1 a2 a3 a4 a5 (conPlan x1.toNat x2.toNat).1.length (conPlan x1.toNat x2.toNat).2.1 (conPlan x1.toNat x2.toNat).2.2 l else none
theorem impl_ConsistencyHashes.mono : ∀ a0 a1 a2 a3 a4 a5 x1 x2 l k, LeO (impl_ConsistencyHashes.f k a0 a1 a2 a3 a4 a5 x1 x2 l) (impl_ConsistencyHashes.f (k + 1) a0 a1 a2 a3 a4 a5 x1 x2 l) := by
  intro a0 a1 a2 a3 a4 a5 x1 x2 l k
  unfold impl_ConsistencyHashes.f
  exact LeO.ite (LeO.refl _) (LeO.ite (hashF_mono _ _ _ _ _ _ _ _ _ _ _) (LeO.refl _))
theorem hashF_cases {k : Nat} {a0 a1 a2 a3 a4 a5 : Int} {n b e : Nat} {l r : List (List Int)} {z : Bool} (h : hashF k a0 a1 a2 a3 a4 a5 n b e l = some (r, z)) :
    ∃ xs, impl_texts.f k l = some xs ∧ ((xs.length = n ∧ z = true ∧ ∃ f, (b < e → upB_ (impl_toy_HashChildren.f k a0 a1 a2 a3 a4 a5) ((xs.take e).drop (b + 1)) (xs.getD b []) = some f) ∧ impl_texts.f k (rehL b e xs f) = some r) ∨ (xs.length ≠ n ∧ z = false ∧ impl_texts.f k [] = some r)) := by
  unfold hashF at h
  obtain ⟨xs, hx, h⟩ := Option.bind_eq_some_iff.1 h
  refine ⟨xs, hx, ?_⟩
  by_cases hn : xs.length = n
  · rw [if_pos hn] at h
    obtain ⟨f, hf, h⟩ := Option.bind_eq_some_iff.1 h
    obtain ⟨r', hr, h⟩ := Option.bind_eq_some_iff.1 h
    simp only [Option.some.injEq, Prod.mk.injEq] at h
    obtain ⟨rfl, rfl⟩ := h
    exact .inl ⟨hn, rfl, f, fun hb => by rw [if_pos hb] at hf; exact hf, hr⟩
  · rw [if_neg hn] at h
    obtain ⟨r', hr, h⟩ := Option.bind_eq_some_iff.1 h
    simp only [Option.some.injEq, Prod.mk.injEq] at h
    obtain ⟨rfl, rfl⟩ := h
    exact .inr ⟨hn, rfl, hr⟩
theorem impl_ConsistencyHashes.calls (k : Nat) (a0 a1 a2 a3 a4 a5 x1 x2 : Int) (A : Option Addr) (c : Nat) (l : List (List Int)) (r : List (List Int)) (z : Bool) (w : World) (hG : Glob w) (hr : Kd.C (Kd.slice 5 (Kd.int .u8)) w A l.length l) (hc : l.length ≤ c) (h : impl_ConsistencyHashes.f k a0 a1 a2 a3 a4 a5 x1 x2 l = some (r, z)) :
    Calls Tryd.prog 26 #[.agg #[.int .i64 a0, .int .i64 a1, .int .i64 a2, .int .u64 a3, .int .u64 a4, .int .u64 a5], .int .u64 x1, .int .u64 x2, .slice A l.length c] w fun ex w' => ∃ v : Value, ex = .returned (.tuple #[v, .bool z]) ∧ Kd.S (Kd.slice 5 (Kd.int .u8)) 27 w' w.heap.size (fun _ => True) v r ∧ Below w.heap.size w w' := by
  unfold impl_ConsistencyHashes.f at h
  by_cases h1 : x2 < x1
  · rw [if_pos h1] at h
    simp only [Option.some.injEq, Prod.mk.injEq] at h
    obtain ⟨rfl, rfl⟩ := h
    refine (consHashes_no a0 a1 a2 a3 a4 a5 x1 x2 (.slice A l.length c) w (fun W => proofConsistencyNo.calls x1 x2 h1 W)).mono ?_
    rintro ex w' ⟨rfl, hb⟩
    exact ⟨_, rfl, Kd.S_nil _ _ _ _ _, hb⟩
  · rw [if_neg h1] at h
    by_cases h2 : 0 ≤ x1 ∧ x2 < 18446744073709551616
    case neg => rw [if_neg h2] at h; cases h
    rw [if_pos h2] at h
    obtain ⟨s, rfl⟩ : ∃ i : Nat, x1 = (i : Int) := ⟨x1.toNat, by omega⟩
    obtain ⟨n, rfl⟩ : ∃ n : Nat, x2 = (n : Int) := ⟨x2.toNat, by omega⟩
    rw [Int.toNat_natCast, Int.toNat_natCast] at h
    have hsn : s ≤ n := by omega
    have hn : n < 18446744073709551616 := by omega
    obtain ⟨e1, e2, e3⟩ := conPlan_len s n hsn hn
    have hA : ∃ z1 z2 : Int, ∀ W, Glob W → Calls Tryd.prog 63 #[.int .u64 (s : Int), .int .u64 (n : Int)] W fun ex w' => ∃ A c, ex = .returned (.tuple #[.agg #[.slice A (conPlan s n).1.length c, .int .i64 ((conPlan s n).2.1 : Int), .int .i64 ((conPlan s n).2.2 : Int), .int .u64 z1, .int .u64 z2], .nilIface]) ∧ Below W.heap.size W w' := by
      unfold conPlan
      by_cases hz : s = n ∨ s = 0
      · rw [if_pos hz]
        refine ⟨0, 0, fun W hW => ?_⟩
        refine (proofConsistencyNil.calls (s : Int) (n : Int) (by omega) (by omega) W).mono ?_
        rintro ex w' ⟨v, rfl, hQ, hb⟩
        obtain ⟨A', c', rfl, _⟩ := Kd.Q_slice hQ
        exact ⟨A', c', rfl, hb⟩
      · rw [if_neg hz]
        obtain ⟨o1, o2⟩ := lev_odd (s := s) (by omega)
        refine ⟨((ndEph (s / 2 ^ lev s (2 * s) - 1) (lev s (2 * s)) n).1 : Int), ((ndEph (s / 2 ^ lev s (2 * s) - 1) (lev s (2 * s)) n).2 : Int), fun W hW => ?_⟩
        refine (proofConsistency.calls (lev s (2 * s)) (s / 2 ^ lev s (2 * s)) s n o2 o1 (by omega) hn W hW).mono ?_
        rintro ex w' ⟨v, rfl, hQ, hb⟩
        obtain ⟨A', c', rfl, _⟩ := Kd.Q_slice hQ
        refine ⟨A', c', ?_, hb⟩
        split <;> rw [List.length_map]
    obtain ⟨z1, z2, hA⟩ := hA
    obtain ⟨xs, hx, ⟨g1, rfl, f, g2, g3⟩ | ⟨g1, rfl, g2⟩⟩ := hashF_cases h
    · exact consHashes_yes k a0 a1 a2 a3 a4 a5 (s : Int) (n : Int) z1 z2 (conPlan s n).2.1 (conPlan s n).2.2 (conPlan s n).1.length A c l xs f r w hG hA hr hc hx g1 (by omega) (by omega) (fun _ => e1) g2 g3
    · exact consHashes_len k a0 a1 a2 a3 a4 a5 (s : Int) (n : Int) z1 z2 (conPlan s n).2.1 (conPlan s n).2.2 (conPlan s n).1.length A c l xs r w hG hA hr hc hx g1 g2
end Go.Proofs.YtielnphmcaecdaaDoor.PAll
