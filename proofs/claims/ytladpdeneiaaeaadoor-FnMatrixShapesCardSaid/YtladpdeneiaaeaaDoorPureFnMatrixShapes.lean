import Derived.Test.YtladpdeneiaaeaaDoorPShpx4
import Derived.Test.YtladpdeneiaaeaaDoorPShpx3
import Derived.Test.YtladpdeneiaaeaaDoorNum
/-! The law on the shapes of matrices, over lists of numbers alone. -/
namespace Go.Proofs.YtladpdeneiaaeaaDoor.Pure
open Go.RowKit Go.Proofs.YtladpdeneiaaeaaDoor.Num Go.Proofs.YtladpdeneiaaeaaDoor.PShp Go.Proofs.YtladpdeneiaaeaaDoorW.PrintWords Go.Proofs.YtladpdeneiaaeaaDoorW.PrintLast
set_option linter.unusedVariables false
set_option linter.unusedSectionVars false
theorem lift {α : Type} {F : Nat → Option α} (hm : ∀ k, LeO (F k) (F (k + 1))) {k : Nat} {r : α} (h : F k = some r) : ∀ {K : Nat}, k ≤ K → F K = some r := by
  intro K hK
  obtain ⟨d, rfl⟩ := Nat.exists_eq_add_of_le hK
  clear hK
  induction d with
  | zero => exact h
  | succ d ih => exact hm _ _ ih
theorem rdL (l : List (List Int)) (i : Nat) : rd_L1 l (i : Int) = l.getD i [] := rfl
theorem drop_at {α : Type} (l : List α) (i : Nat) (d : α) (h : i < l.length) : l.take (i + 1) = l.take i ++ [l.getD i d] := by
  rw [List.getD_eq_getElem?_getD, List.getElem?_eq_getElem h, Option.getD_some, List.take_succ_eq_append_getElem h]
/-! ### Sizes -/
theorem fits_loop (l : List (List Int)) (hl : l.length ≤ 2147483647) (d : Nat) : ∀ i, i + d = l.length → (∀ j, j < i → (l.getD j []).length ≤ 2147483647) →
    ∃ z, laws_zzFits2.l0 (d + 1) l (l.length : Int) (i : Int) = some z ∧ (z = true → ∀ j, j < l.length → (l.getD j []).length ≤ 2147483647) := by
  induction d with
  | zero =>
    intro i hi hj
    exact ⟨true, by rw [laws_zzFits2.l0, if_neg (by omega)], fun _ j h => hj j (by omega)⟩
  | succ d ih =>
    intro i hi hj
    rw [laws_zzFits2.l0, if_pos (by omega), if_pos (by omega), if_pos (by omega), rdL]
    by_cases h : ((l.getD i []).length : Int) > 2147483647
    · rw [if_pos h]; exact ⟨false, rfl, fun h => by cases h⟩
    · rw [if_neg h, next64 (by omega)]
      exact ih (i + 1) (by omega) (fun j h2 => by
        by_cases e : j = i
        · subst e; omega
        · exact hj j (by omega))
theorem fits (l : List (List Int)) : ∃ z k, laws_zzFits2.f k l = some z ∧ (z = true → l.length ≤ 2147483647 ∧ ∀ j, j < l.length → (l.getD j []).length ≤ 2147483647) := by
  by_cases h : (l.length : Int) > 2147483647
  · exact ⟨false, 0, by unfold laws_zzFits2.f; rw [if_pos h], fun h => by cases h⟩
  · obtain ⟨z, hz, hb⟩ := fits_loop l (by omega) l.length 0 (by omega) (fun j h => absurd h (by omega))
    exact ⟨z, l.length + 1, by unfold laws_zzFits2.f; rw [if_neg h]; exact hz, fun e => ⟨by omega, hb e⟩⟩
theorem mod_inner (L : List (List (List Int))) (n i0 : Int) (xs : List (List Int)) (hx : xs.length ≤ 2147483647) (hk : ∃ k z, laws_moderate.l0 k L n (wrap64 (i0 + 1)) = some z) (d : Nat) : ∀ i, i + d = xs.length →
    ∃ k z, laws_moderate.l1 k L n i0 xs (xs.length : Int) (i : Int) = some z := by
  induction d with
  | zero =>
    intro i hi
    obtain ⟨k, z, h⟩ := hk
    exact ⟨k + 1, z, by rw [laws_moderate.l1, if_neg (by omega)]; exact h⟩
  | succ d ih =>
    intro i hi
    by_cases h : ((rd_L1 xs (i : Int)).length : Int) > 40
    · exact ⟨1, false, by rw [laws_moderate.l1, if_pos (by omega), if_pos (by omega), if_pos (by omega), if_pos h]⟩
    · obtain ⟨k, z, hz⟩ := ih (i + 1) (by omega)
      exact ⟨k + 1, z, by rw [laws_moderate.l1, if_pos (by omega), if_pos (by omega), if_pos (by omega), if_neg h, next64 (by omega)]; exact hz⟩
theorem mod_total (L : List (List (List Int))) (hL : L.length ≤ 2147483647) (hx : ∀ j, j < L.length → (L.getD j []).length ≤ 2147483647) (d : Nat) : ∀ i, i + d = L.length → ∃ k z, laws_moderate.l0 k L (L.length : Int) (i : Int) = some z := by
  induction d with
  | zero => exact fun i hi => ⟨1, true, by rw [laws_moderate.l0, if_neg (by omega)]⟩
  | succ d ih =>
    intro i hi
    have e : rd_L2 L (i : Int) = L.getD i [] := rfl
    by_cases h : ((rd_L2 L (i : Int)).length : Int) > 40
    · exact ⟨1, false, by rw [laws_moderate.l0, if_pos (by omega), if_pos (by omega), if_pos (by omega), if_pos h]⟩
    · obtain ⟨k, z, hz⟩ := mod_inner L (L.length : Int) (i : Int) (rd_L2 L (i : Int)) (by rw [e]; exact hx i (by omega)) (by rw [next64 (by omega)]; exact ih (i + 1) (by omega)) _ 0 (Nat.zero_add _)
      exact ⟨k + 1, z, by rw [laws_moderate.l0, if_pos (by omega), if_pos (by omega), if_pos (by omega), if_neg h]; exact hz⟩
/-! ### What is a matrix -/
theorem columns {l : List (List Int)} (h : 0 < l.length) : spec_Columns.f l = some ((rd_L1 l 0).length : Int) := by
  unfold spec_Columns.f
  rw [if_neg (by omega), if_pos (by omega)]
theorem rect_loop (l : List (List Int)) (hl : l.length ≤ 2147483647) (h0 : 0 < l.length) (d : Nat) : ∀ i, i + d = l.length → (∀ j : Nat, j < i → (rd_L1 l (j : Int)).length = (rd_L1 l 0).length) →
    spec_Rectangular.l0 (d + 1) l l (l.length : Int) (i : Int) = some (decide (Rect l)) := by
  induction d with
  | zero =>
    intro i hi hj
    rw [spec_Rectangular.l0, if_neg (by omega), columns h0, Option.bind_some]
    congr 1
    by_cases h1 : 0 < (rd_L1 l 0).length
    · rw [decide_eq_true (by omega), decide_eq_true (rect_of h0 h1 (fun j h => hj j (by omega)))]
    · rw [decide_eq_false (by omega), decide_eq_false (fun h => h1 h.2.1)]
  | succ d ih =>
    intro i hi hj
    rw [spec_Rectangular.l0, if_pos (by omega), if_pos (by omega), if_pos (by omega), columns h0, Option.bind_some]
    by_cases h : ((rd_L1 l (i : Int)).length : Int) = ((rd_L1 l 0).length : Int)
    · rw [if_pos h, next64 (by omega)]
      exact ih (i + 1) (by omega) (fun j h2 => by
        by_cases e : j = i
        · subst e; omega
        · exact hj j (by omega))
    · rw [if_neg h, decide_eq_false (fun hr => h (by rw [hr.2.2 _ (rd_mem (by omega))]))]
theorem rect_eq (l : List (List Int)) (hl : l.length ≤ 2147483647) : spec_Rectangular.f (l.length + 1) l = some (decide (Rect l)) := by
  unfold spec_Rectangular.f
  by_cases h0 : 0 < l.length
  · exact rect_loop l hl h0 l.length 0 (by omega) (fun j h => absurd h (by omega))
  · rw [spec_Rectangular.l0, if_neg (by omega), decide_eq_false (fun h => h0 h.1)]
    unfold spec_Columns.f
    rw [if_pos (by omega)]; rfl
/-! ### Copies -/
theorem rows_loop (l : List (List Int)) (hl : l.length ≤ 2147483647) (hb : ∀ j, j < l.length → (l.getD j []).length ≤ 2147483647) (d : Nat) : ∀ i, i + d = l.length →
    impl_rows.l0 (d + 1) (l.take i) l (l.length : Int) (i : Int) = some l := by
  induction d with
  | zero =>
    intro i hi
    rw [impl_rows.l0, if_neg (by omega), List.take_of_length_le (by omega)]
  | succ d ih =>
    intro i hi
    have h1 := hb i (by omega)
    have h2 : (l.take i).length < 5864062014805 := by rw [List.length_take]; omega
    rw [impl_rows.l0, if_pos (by omega), if_pos (by omega), if_pos (by omega), if_pos (by rw [rdL]; simp only [List.length_nil]; omega), if_pos h2, next64 (by omega), List.nil_append, rdL, ← drop_at l i [] (by omega)]
    exact ih (i + 1) (by omega)
theorem rows_eq (l : List (List Int)) (hl : l.length ≤ 2147483647) (hb : ∀ j, j < l.length → (l.getD j []).length ≤ 2147483647) : impl_rows.f (l.length + 1) l = some l :=
  rows_loop l hl hb l.length 0 (by omega)
/-! ### A matrix is equal to itself -/
theorem eq_inner (x : List (List Int)) (i : Nat) (hi : i < x.length) (n m : Int) (hb : (rd_L1 x (i : Int)).length ≤ 2147483647) (k d : Nat) : ∀ j, j + d = (rd_L1 x (i : Int)).length →
    spec_EqualMatrices.l1 (k + d + 1) x x (i : Int) n m ((rd_L1 x (i : Int)).length : Int) (j : Int) = spec_EqualMatrices.l0 k x x n (wrap64 (m + 1)) := by
  induction d with
  | zero =>
    intro j hj
    rw [spec_EqualMatrices.l1, if_neg (by omega)]
  | succ d ih =>
    intro j hj
    rw [show k + (d + 1) + 1 = (k + d + 1) + 1 by omega, spec_EqualMatrices.l1, if_pos (by omega), if_pos (by omega), if_pos (by omega), if_pos (by omega), if_pos (by omega), if_pos (by omega), if_pos (by omega), if_pos rfl, next64 (by omega)]
    exact ih (j + 1) (by omega)
theorem eq_outer (x : List (List Int)) (hx : x.length ≤ 2147483647) (hb : ∀ j : Nat, j < x.length → (rd_L1 x (j : Int)).length ≤ 2147483647) (d : Nat) : ∀ i, i + d = x.length → ∃ k, spec_EqualMatrices.l0 k x x (x.length : Int) (i : Int) = some true := by
  induction d with
  | zero => exact fun i hi => ⟨1, by rw [spec_EqualMatrices.l0, if_neg (by omega)]⟩
  | succ d ih =>
    intro i hi
    obtain ⟨k, hk⟩ := ih (i + 1) (by omega)
    refine ⟨k + (rd_L1 x (i : Int)).length + 1 + 1, ?_⟩
    rw [spec_EqualMatrices.l0, if_pos (by omega), if_pos (by omega), if_pos (by omega), if_pos (by omega), if_pos rfl]
    have h := eq_inner x i (by omega) (x.length : Int) (i : Int) (hb i (by omega)) k (rd_L1 x (i : Int)).length 0 (by omega)
    rw [show ((0 : Nat) : Int) = 0 from rfl] at h
    rw [h, next64 (by omega)]
    exact hk
theorem eq_self (x : List (List Int)) (hx : x.length ≤ 2147483647) (hb : ∀ j : Nat, j < x.length → (rd_L1 x (j : Int)).length ≤ 2147483647) : ∃ k, spec_EqualMatrices.f k x x = some true := by
  obtain ⟨k, hk⟩ := eq_outer x hx hb x.length 0 (by omega)
  exact ⟨k, by unfold spec_EqualMatrices.f; rw [if_pos rfl]; exact hk⟩
theorem swp_bound {l : List (List Int)} (hb : ∀ j, j < l.length → (l.getD j []).length ≤ 2147483647) (i j : Int) : ∀ x ∈ swp l i j, x.length ≤ 2147483647 := by
  have hr : ∀ q : Int, (rd_L1 l q).length ≤ 2147483647 := fun q => by
    show (l.getD q.toNat []).length ≤ _
    by_cases h : q.toNat < l.length
    · exact hb _ h
    · rw [List.getD_eq_getElem?_getD, List.getElem?_eq_none (by omega)]; decide
  intro x hx
  unfold swp at hx
  rcases List.mem_or_eq_of_mem_set hx with h | h
  · rcases List.mem_or_eq_of_mem_set h with h | h
    · obtain ⟨m, hm, rfl⟩ := List.getElem_of_mem h
      have := hb m hm
      rw [List.getD_eq_getElem?_getD, List.getElem?_eq_getElem hm] at this
      exact this
    · rw [h]; exact hr _
  · rw [h]; exact hr _
/-! ### Sizes of two matrices -/
theorem same_size {l m : List (List Int)} (k : Nat) (hl : impl_rows.f k l = some l) (hm : impl_rows.f k m = some m) (h0 : Rect l) (h1 : Rect m) :
    impl_SameSize.f k l m = some (l.length == m.length && (rd_L1 l 0).length == (rd_L1 m 0).length) := by
  unfold impl_SameSize.f
  rw [if_pos ⟨h0, h1⟩, hl, Option.bind_some, hm, Option.bind_some]
  congr 1
  rw [Bool.eq_iff_iff, alike_iff]
  unfold PShp.Alike
  simp only [Bool.and_eq_true, beq_iff_eq]
  constructor
  · exact fun h => ⟨h.1, h.2 0 h0.1⟩
  · intro h
    refine ⟨h.1, fun j hj => ?_⟩
    rw [h0.2.2 _ (rd_mem hj), h1.2.2 _ (rd_mem (by omega)), h.2]
theorem same_no {l m : List (List Int)} (k : Nat) (h : ¬ (Rect l ∧ Rect m)) : impl_SameSize.f k l m = some false := by
  unfold impl_SameSize.f
  rw [if_neg h]
abbrev inr (l : List (List Int)) (i j : Int) : Prop := (0 ≤ i ∧ i < (l.length : Int)) ∧ 0 ≤ j ∧ j < (l.length : Int)
theorem behind (k : Nat) (l : List (List Int)) (i j : Int) (got : List (List Int)) (b : Bool) (h : b = true → inr l i j ∧ spec_EqualMatrices.f k got (swp l i j) = some true) : laws_FnMatrixShapes.j2 (k + 1) l i j got b false = some true := by
  rw [laws_FnMatrixShapes.j2, if_neg (by decide)]
  cases b with
  | false => rw [if_neg (by decide)]
  | true =>
    obtain ⟨h1, h2⟩ := h rfl
    rw [if_pos rfl, if_pos h1, h2]; rfl
theorem first (k : Nat) (l m : List (List Int)) (i j : Int) (got : List (List Int)) (b : Bool) (h0 : Rect l) (hl : impl_rows.f (k + 1) l = some l) (hm : impl_rows.f (k + 1) m = some m) (hR : spec_Rectangular.f (k + 1) m = some (decide (Rect m)))
    (h : b = true → inr l i j ∧ spec_EqualMatrices.f k got (swp l i j) = some true) : laws_FnMatrixShapes.j1 (k + 1 + 1) l m i j got b b = some true := by
  have hq : impl_IsSquare.f (k + 1) l = some ((l.length : Int) == ((rd_L1 l 0).length : Int)) := by
    unfold impl_IsSquare.f impl_isMatrix.f
    rw [decide_eq_true h0, Option.bind_some, if_pos rfl, hl, Option.bind_some]
    unfold reedsolomon_DoorSquare.f reedsolomon_matrix_IsSquare.f
    rw [if_pos (by have := h0.1; omega)]; rfl
  have hb := behind k l i j got b h
  rw [laws_FnMatrixShapes.j1, if_neg (by simp), hq, Option.bind_some, if_pos (by have := h0.1; omega), if_neg (by simp)]
  by_cases h1 : Rect m
  · rw [same_size (k + 1) hl hm h0 h1, Option.bind_some, hR, Option.bind_some, decide_eq_true h1, if_pos rfl]
    by_cases e : (l.length : Int) = (m.length : Int)
    · rw [if_pos e, if_pos (by have := h1.1; omega)]
      have e2 : ((l.length == m.length && (rd_L1 l 0).length == (rd_L1 m 0).length) != (((rd_L1 l 0).length : Int) == ((rd_L1 m 0).length : Int))) = false := by
        rw [beq_iff_eq.mpr (by omega : l.length = m.length), Bool.true_and]
        by_cases e3 : (rd_L1 l 0).length = (rd_L1 m 0).length
        · rw [beq_iff_eq.mpr e3, beq_iff_eq.mpr (by omega)]; rfl
        · rw [beq_eq_false_iff_ne.mpr e3, beq_eq_false_iff_ne.mpr (by omega)]; rfl
      rw [e2]; exact hb
    · rw [if_neg e, beq_eq_false_iff_ne.mpr (by omega : l.length ≠ m.length), Bool.false_and]; exact hb
  · rw [same_no (k + 1) (fun h => h1 h.2), Option.bind_some, hR, Option.bind_some, decide_eq_false h1, if_neg (by decide)]; exact hb
theorem FnMatrixShapes (l0 : List (List (Int))) (l1 : List (List (Int))) (a2 : Int) (a3 : Int) (w0 : l0.length ≤ maxLen ∧ ∀ l0' ∈ l0, l0'.length ≤ maxLen ∧ ∀ l0'' ∈ l0', (Lit.int .u8 l0'').wf = true) (w1 : l1.length ≤ maxLen ∧ ∀ l1' ∈ l1, l1'.length ≤ maxLen ∧ ∀ l1'' ∈ l1', (Lit.int .u8 l1'').wf = true) (w2 : (Lit.int .i64 a2).wf = true) (w3 : (Lit.int .i64 a3).wf = true) : ∃ k, laws_FnMatrixShapes.f k l0 l1 a2 a3 = some true := by
  obtain ⟨z, kz, hz, hfit⟩ := fits l0
  obtain ⟨y, ky, hy, hfit1⟩ := fits l1
  have hZ : ∀ {K : Nat}, kz ≤ K → laws_zzFits2.f K l0 = some z := fun h => lift (fun k => laws_zzFits2.mono l0 k) hz h
  have hY : ∀ {K : Nat}, ky ≤ K → laws_zzFits2.f K l1 = some y := fun h => lift (fun k => laws_zzFits2.mono l1 k) hy h
  have j0t : ∀ K, laws_FnMatrixShapes.j0 (K + 1) l0 l1 a2 a3 true = some true := fun K => by rw [laws_FnMatrixShapes.j0, if_pos rfl]
  cases z with
  | false => exact ⟨kz + 1, by unfold laws_FnMatrixShapes.f; rw [hZ (by omega), Option.bind_some, if_neg (by decide)]; exact j0t kz⟩
  | true =>
  cases y with
  | false => exact ⟨kz + ky + 1, by unfold laws_FnMatrixShapes.f; rw [hZ (by omega), Option.bind_some, if_pos rfl, hY (by omega), Option.bind_some]; exact j0t _⟩
  | true =>
  obtain ⟨f1, f2⟩ := hfit rfl
  obtain ⟨g1, g2⟩ := hfit1 rfl
  obtain ⟨km, m, hm⟩ := mod_total [l0, l1] (by simp) (fun j hj => by
    rcases j with _ | _ | j
    · exact f1
    · exact g1
    · exact absurd hj (by simp only [List.length_cons, List.length_nil]; omega)) 2 0 rfl
  have hm : laws_moderate.f km [l0, l1] = some m := hm
  have hM : ∀ {K : Nat}, km ≤ K → laws_moderate.f K [l0, l1] = some m := fun h => lift (fun k => laws_moderate.mono [l0, l1] k) hm h
  have start : ∀ {K : Nat}, kz ≤ K → ky ≤ K → laws_FnMatrixShapes.j0 K l0 l1 a2 a3 false = some true → ∃ k, laws_FnMatrixShapes.f k l0 l1 a2 a3 = some true := fun {K} h1 h2 h => ⟨K, by
    unfold laws_FnMatrixShapes.f
    rw [hZ h1, Option.bind_some, if_pos rfl, hY h2, Option.bind_some]; exact h⟩
  cases m with
  | false =>
    refine start (K := kz + ky + km + 1) (by omega) (by omega) ?_
    rw [laws_FnMatrixShapes.j0, if_neg (by decide), hM (by omega), Option.bind_some, if_neg (by decide)]
  | true =>
  have hR0 : ∀ {K : Nat}, l0.length + 1 ≤ K → spec_Rectangular.f K l0 = some (decide (Rect l0)) := fun h => lift (fun k => spec_Rectangular.mono l0 k) (rect_eq l0 f1) h
  have hR1 : ∀ {K : Nat}, l1.length + 1 ≤ K → spec_Rectangular.f K l1 = some (decide (Rect l1)) := fun h => lift (fun k => spec_Rectangular.mono l1 k) (rect_eq l1 g1) h
  have hC0 : ∀ {K : Nat}, l0.length + 1 ≤ K → impl_rows.f K l0 = some l0 := fun h => lift (fun k => impl_rows.mono l0 k) (rows_eq l0 f1 f2) h
  have hC1 : ∀ {K : Nat}, l1.length + 1 ≤ K → impl_rows.f K l1 = some l1 := fun h => lift (fun k => impl_rows.mono l1 k) (rows_eq l1 g1 g2) h
  by_cases hrect : Rect l0
  · have hsl : (swp l0 a2 a3).length = l0.length := by unfold swp; rw [List.length_set, List.length_set]
    obtain ⟨ke, he⟩ := eq_self (swp l0 a2 a3) (by omega) (fun j hj => swp_bound f2 a2 a3 _ (rd_mem hj))
    have hE : ∀ {K : Nat}, ke ≤ K → spec_EqualMatrices.f K (swp l0 a2 a3) (swp l0 a2 a3) = some true := fun h => lift (fun k => spec_EqualMatrices.mono _ _ k) he h
    obtain ⟨K, hK⟩ : ∃ K, K = kz + ky + km + ke + l0.length + l1.length + 10 := ⟨_, rfl⟩
    refine start (K := K + 1 + 1 + 1) (by omega) (by omega) ?_
    rw [laws_FnMatrixShapes.j0, if_neg (by decide), hM (by omega), Option.bind_some, if_pos rfl]
    by_cases hin : inr l0 a2 a3
    · have hS : impl_SwapRows.f (K + 1 + 1) l0 a2 a3 = some (swp l0 a2 a3, true) := by
        unfold impl_SwapRows.f
        rw [if_pos hrect, hC0 (by omega), Option.bind_some, if_pos hin]
      rw [hS, Option.bind_some, hR0 (by omega), Option.bind_some, decide_eq_true hrect, if_pos rfl, if_pos hin.1.1, if_pos hin.1.2, if_pos hin.2.1, decide_eq_true hin.2.2]
      exact first K l0 l1 a2 a3 _ true hrect (hC0 (by omega)) (hC1 (by omega)) (hR1 (by omega)) (fun _ => ⟨hin, hE (by omega)⟩)
    · have hS : impl_SwapRows.f (K + 1 + 1) l0 a2 a3 = some ([], false) := by
        unfold impl_SwapRows.f
        rw [if_pos hrect, hC0 (by omega), Option.bind_some, if_neg hin]
      have hj := first K l0 l1 a2 a3 [] false hrect (hC0 (by omega)) (hC1 (by omega)) (hR1 (by omega)) (fun h => by cases h)
      rw [hS, Option.bind_some, hR0 (by omega), Option.bind_some, decide_eq_true hrect, if_pos rfl]
      by_cases e1 : 0 ≤ a2
      · rw [if_pos e1]
        by_cases e2 : a2 < (l0.length : Int)
        · rw [if_pos e2]
          by_cases e3 : 0 ≤ a3
          · rw [if_pos e3, decide_eq_false (fun e4 => hin ⟨⟨e1, e2⟩, e3, e4⟩)]; exact hj
          · rw [if_neg e3]; exact hj
        · rw [if_neg e2]; exact hj
      · rw [if_neg e1]; exact hj
  · obtain ⟨K, hK⟩ : ∃ K, K = kz + ky + km + l0.length + l1.length + 10 := ⟨_, rfl⟩
    refine start (K := K + 1) (by omega) (by omega) ?_
    have hS : impl_SwapRows.f K l0 a2 a3 = some ([], false) := by
      unfold impl_SwapRows.f
      rw [if_neg hrect]
    rw [laws_FnMatrixShapes.j0, if_neg (by decide), hM (by omega), Option.bind_some, if_pos rfl, hS, Option.bind_some, hR0 (by omega), Option.bind_some, decide_eq_false hrect, if_neg (by decide), if_neg (by simp), same_no K (fun h => hrect h.1), Option.bind_some, if_neg (by decide), same_no K (fun h => hrect h.2)]
    rfl
end Go.Proofs.YtladpdeneiaaeaaDoor.Pure
