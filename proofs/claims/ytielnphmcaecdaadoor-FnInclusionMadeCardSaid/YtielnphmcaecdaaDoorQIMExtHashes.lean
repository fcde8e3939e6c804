-- Written by a program of this session (wip/tools)
import Derived.Test.YtielnphmcaecdaaDoorQIMExtHashW
namespace Go.Proofs.YtielnphmcaecdaaDoor.PAll
open Go.IntWalk Go.RowKit Go.Proofs.YtielnphmcaecdaaDoor.Num Go.Proofs.YtielnphmcaecdaaDoor.Mth Go.Proofs.YtielnphmcaecdaaDoorW.PrintWords Go.Proofs.YtielnphmcaecdaaDoorW.PrintLast Go.Proofs.YtielnphmcaecdaaDoorW.PrintMore
set_option linter.unusedVariables false
theorem upB_mono {H H' : List Int → List Int → Option (List Int)} (h : ∀ a b, LeO (H a b) (H' a b)) : ∀ l s, LeO (upB_ H l s) (upB_ H' l s)
  | [], s => LeO.refl _
  | x :: xs, s => LeO.bind (h x s) (fun t => upB_mono h xs t)
def hashF (k : Nat) (a0 a1 a2 a3 a4 a5 : Int) (n b e : Nat) (l : List (List Int)) : Option (List (List Int) × Bool) :=
  (impl_texts.f k l).bind fun xs => if xs.length = n then (if b < e then upB_ (impl_toy_HashChildren.f k a0 a1 a2 a3 a4 a5) ((xs.take e).drop (b + 1)) (xs.getD b []) else some []).bind fun f => (impl_texts.f k (rehL b e xs f)).bind fun r => some (r, true)
    else (impl_texts.f k []).bind fun r => some (r, false)
theorem hashF_mono (k : Nat) (a0 a1 a2 a3 a4 a5 : Int) (n b e : Nat) (l : List (List Int)) : LeO (hashF k a0 a1 a2 a3 a4 a5 n b e l) (hashF (k + 1) a0 a1 a2 a3 a4 a5 n b e l) := by
  unfold hashF
  refine LeO.bind (impl_texts.mono _ _) (fun x => LeO.ite (LeO.bind (LeO.ite (upB_mono (fun a b => impl_toy_HashChildren.mono _ _ _ _ _ _ _ _ _) _ _) (LeO.refl _)) (fun f => LeO.bind (impl_texts.mono _ _) (fun r => LeO.refl _))) (LeO.bind (impl_texts.mono _ _) (fun r => LeO.refl _)))
def conPlan (s n : Nat) : List (Nat × Nat) × Nat × Nat :=
  if s = n ∨ s = 0 then ([], 0, 0) else if s / 2 ^ lev s (2 * s) = 1 then (skIds (s / 2 ^ lev s (2 * s) - 1) (lev s (2 * s)) n, skBegin (s / 2 ^ lev s (2 * s) - 1) (lev s (2 * s)) n, skEnd (s / 2 ^ lev s (2 * s) - 1) (lev s (2 * s)) n)
    else (ndIds (s / 2 ^ lev s (2 * s) - 1) (lev s (2 * s)) n, ndBegin (s / 2 ^ lev s (2 * s) - 1) (lev s (2 * s)) n, ndEnd (s / 2 ^ lev s (2 * s) - 1) (lev s (2 * s)) n)
theorem ndS_len (i l n : Nat) : (ndS i l n).length = ndM i l n := by unfold ndS; simp
theorem skIds_len (i l n : Nat) (hl : l ≤ 63) (hi : i < n / 2 ^ l) (hn : n < 18446744073709551616) : skEnd i l n ≤ (skIds i l n).length ∧ skBegin i l n ≤ skEnd i l n ∧ (skIds i l n).length ≤ 400 := by
  have lenR : (Nds 0 (ndE i l n) n).length ≤ 128 := Nds_len 0 _ _ 64 hn
  have lenL : (Nds 0 0 (ndB i l n)).length ≤ 128 := Nds_len 0 _ _ 64 (by have := ndB_lt i l n hi; omega)
  have hm := ndM_le i l n hl hi hn
  unfold skEnd skBegin skIds
  rw [List.length_append, List.length_append, List.length_reverse, List.length_reverse, ndS_len]
  split <;> omega
theorem incIds_end (i n : Nat) (hi : i < n) (hn : n < 18446744073709551616) : incEnd i n ≤ (incIds i n).length ∧ incBegin i n ≤ incEnd i n := by
  have h := skIds_len i 0 n (by omega) (by rw [Nat.pow_zero, Nat.div_one]; exact hi) hn
  exact ⟨h.1, h.2.1⟩
def impl_InclusionHashes.f (k : Nat) (a0 a1 a2 a3 a4 a5 x1 x2 : Int) (l : List (List Int)) : Option (List (List Int) × Bool) :=
  if x2 ≤ x1 then some ([], false) else if 0 ≤ x1 ∧ x2 < 18446744073709551616 then hashF k a0 a1 a2 a3 a4 a5 (incIds x1.toNat x2.toNat).length (incBegin x1.toNat x2.toNat) (incEnd x1.toNat x2.toNat) l else none
theorem impl_InclusionHashes.mono : ∀ a0 a1 a2 a3 a4 a5 x1 x2 l k, LeO (impl_InclusionHashes.f k a0 a1 a2 a3 a4 a5 x1 x2 l) (impl_InclusionHashes.f (k + 1) a0 a1 a2 a3 a4 a5 x1 x2 l) := by
  intro a0 a1 a2 a3 a4 a5 x1 x2 l k
  unfold impl_InclusionHashes.f
  exact LeO.ite (LeO.refl _) (LeO.ite (hashF_mono _ _ _ _ _ _ _ _ _ _ _) (LeO.refl _))
def impl_ConsistencyHashes.f (k : Nat) (a0 a1 a2 a3 a4 a5 x1 x2 : Int) (l : List (List Int)) : Option (List (List Int) × Bool) :=
  if x2 < x1 then some ([], false) else if 0 ≤ x1 ∧ x2 < 18446744073709551616 then hashF k a0 a1 a2 a3 a4 a5 (conPlan x1.toNat x2.toNat).1.length (conPlan x1.toNat x2.toNat).2.1 (conPlan x1.toNat x2.toNat).2.2 l else none
theorem impl_ConsistencyHashes.mono : ∀ a0 a1 a2 a3 a4 a5 x1 x2 l k, LeO (impl_ConsistencyHashes.f k a0 a1 a2 a3 a4 a5 x1 x2 l) (impl_ConsistencyHashes.f (k + 1) a0 a1 a2 a3 a4 a5 x1 x2 l) := by
  intro a0 a1 a2 a3 a4 a5 x1 x2 l k
  unfold impl_ConsistencyHashes.f
  exact LeO.ite (LeO.refl _) (LeO.ite (hashF_mono _ _ _ _ _ _ _ _ _ _ _) (LeO.refl _))
theorem hashF_cases {k : Nat} {a0 a1 a2 a3 a4 a5 : Int} {n b e : Nat} {l r : List (List Int)} {z : Bool} (h : hashF k a0 a1 a2 a3 a4 a5 n b e l = some (r, z)) :
    ∃ xs, impl_texts.f k l = some xs ∧ ((xs.length = n ∧ z = true ∧ ∃ f, (b < e → upB_ (impl_toy_HashChildren.f k a0 a1 a2 a3 a4 a5) ((xs.take e).drop (b + 1)) (xs.getD b []) = some f) ∧ impl_texts.f k (rehL b e xs f) = some r) ∨ (xs.length ≠ n ∧ z = false ∧ impl_texts.f k [] = some r)) := by
  unfold hashF at h
  obtain ⟨xs, hx, h⟩ := Option.bind_eq_some_iff.1 h
  refine ⟨xs, hx, ?_⟩
  by_cases hn : xs.length = n
  · rw [if_pos hn] at h
    obtain ⟨f, hf, h⟩ := Option.bind_eq_some_iff.1 h
    obtain ⟨r', hr, h⟩ := Option.bind_eq_some_iff.1 h
    simp only [Option.some.injEq, Prod.mk.injEq] at h
    obtain ⟨rfl, rfl⟩ := h
    exact .inl ⟨hn, rfl, f, fun hb => by rw [if_pos hb] at hf; exact hf, hr⟩
  · rw [if_neg hn] at h
    obtain ⟨r', hr, h⟩ := Option.bind_eq_some_iff.1 h
    simp only [Option.some.injEq, Prod.mk.injEq] at h
    obtain ⟨rfl, rfl⟩ := h
    exact .inr ⟨hn, rfl, hr⟩
theorem impl_InclusionHashes.calls (k : Nat) (a0 a1 a2 a3 a4 a5 x1 x2 : Int) (A : Option Addr) (c : Nat) (l : List (List Int)) (r : List (List Int)) (z : Bool) (w : World) (hG : Glob w) (hr : Kd.C (Kd.slice 5 (Kd.int .u8)) w A l.length l) (hc : l.length ≤ c) (h : impl_InclusionHashes.f k a0 a1 a2 a3 a4 a5 x1 x2 l = some (r, z)) :
    Calls Tryd.prog 33 #[.agg #[.int .i64 a0, .int .i64 a1, .int .i64 a2, .int .u64 a3, .int .u64 a4, .int .u64 a5], .int .u64 x1, .int .u64 x2, .slice A l.length c] w fun ex w' => ∃ v : Value, ex = .returned (.tuple #[v, .bool z]) ∧ Kd.S (Kd.slice 5 (Kd.int .u8)) 27 w' w.heap.size (fun _ => True) v r ∧ Below w.heap.size w w' := by
  unfold impl_InclusionHashes.f at h
  by_cases h1 : x2 ≤ x1
  · rw [if_pos h1] at h
    simp only [Option.some.injEq, Prod.mk.injEq] at h
    obtain ⟨rfl, rfl⟩ := h
    refine (incHashes_no a0 a1 a2 a3 a4 a5 x1 x2 (.slice A l.length c) w (fun W => proofInclusionNo.calls x1 x2 h1 W)).mono ?_
    rintro ex w' ⟨rfl, hb⟩
    exact ⟨_, rfl, Kd.S_nil _ _ _ _ _, hb⟩
  · rw [if_neg h1] at h
    by_cases h2 : 0 ≤ x1 ∧ x2 < 18446744073709551616
    case neg => rw [if_neg h2] at h; cases h
    rw [if_pos h2] at h
    obtain ⟨i, rfl⟩ : ∃ i : Nat, x1 = (i : Int) := ⟨x1.toNat, by omega⟩
    obtain ⟨n, rfl⟩ : ∃ n : Nat, x2 = (n : Int) := ⟨x2.toNat, by omega⟩
    rw [Int.toNat_natCast, Int.toNat_natCast] at h
    have hi : i < n := by omega
    have hn : n < 18446744073709551616 := by omega
    have hl := incIds_len i n hi hn
    obtain ⟨e1, e2⟩ := incIds_end i n hi hn
    have hA : ∀ W, Glob W → Calls Tryd.prog 70 #[.int .u64 (i : Int), .int .u64 (n : Int)] W fun ex w' => ∃ A c, ex = .returned (.tuple #[.agg #[.slice A (incIds i n).length c, .int .i64 (incBegin i n : Int), .int .i64 (incEnd i n : Int), .int .u64 ((ndEph i 0 n).1 : Int), .int .u64 ((ndEph i 0 n).2 : Int)], .nilIface]) ∧ Below W.heap.size W w' := fun W hW => by
      refine (proofInclusion.calls i n hi hn W hW).mono ?_
      rintro ex w' ⟨v, rfl, hQ, hb⟩
      obtain ⟨A', c', rfl, _⟩ := Kd.Q_slice hQ
      exact ⟨A', c', by rw [List.length_map], hb⟩
    obtain ⟨xs, hx, ⟨g1, rfl, f, g2, g3⟩ | ⟨g1, rfl, g2⟩⟩ := hashF_cases h
    · exact incHashes_yes k a0 a1 a2 a3 a4 a5 (i : Int) (n : Int) _ _ (incBegin i n) (incEnd i n) (incIds i n).length A c l xs f r w hG hA hr hc hx g1 (by omega) (by omega) (fun _ => e1) g2 g3
    · exact incHashes_len k a0 a1 a2 a3 a4 a5 (i : Int) (n : Int) _ _ (incBegin i n) (incEnd i n) (incIds i n).length A c l xs r w hG hA hr hc hx g1 g2
end Go.Proofs.YtielnphmcaecdaaDoor.PAll
