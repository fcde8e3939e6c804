import Derived.Test.YtladpdeneiaaeaaDoorLawFnMatrixRow
import Derived.Test.YtladpdeneiaaeaaDoorFieldSpecR
/-! The law on a row times a matrix, over lists of numbers alone: both sides make the same sums of the same products. -/
namespace Go.Proofs.YtladpdeneiaaeaaDoor.Pure
open Go.RowKit Go.Proofs.YtladpdeneiaaeaaDoor.Num Go.Proofs.YtladpdeneiaaeaaDoor.FldR Go.Proofs.YtladpdeneiaaeaaDoor.PRow Go.Proofs.YtladpdeneiaaeaaDoorW.PrintWords Go.Proofs.YtladpdeneiaaeaaDoorW.PrintLast
set_option linter.unusedVariables false
set_option linter.unusedSectionVars false
theorem lift {α : Type} {F : Nat → Option α} (hm : ∀ k, LeO (F k) (F (k + 1))) {k : Nat} {r : α} (h : F k = some r) : ∀ {K : Nat}, k ≤ K → F K = some r := by
  intro K hK
  obtain ⟨d, rfl⟩ := Nat.exists_eq_add_of_le hK
  clear hK
  induction d with
  | zero => exact h
  | succ d ih => exact hm _ _ ih
theorem rdL (l : List (List Int)) (i : Nat) : rd_L1 l (i : Int) = l.getD i [] := rfl
theorem drop_at {α : Type} (l : List α) (i : Nat) (d : α) (h : i < l.length) : l.take (i + 1) = l.take i ++ [l.getD i d] := by
  rw [List.getD_eq_getElem?_getD, List.getElem?_eq_getElem h, Option.getD_some, List.take_succ_eq_append_getElem h]
/-! ### Sizes -/
theorem fits_loop (l : List (List Int)) (hl : l.length ≤ 2147483647) (d : Nat) : ∀ i, i + d = l.length → (∀ j, j < i → (l.getD j []).length ≤ 2147483647) →
    ∃ z, laws_zzFits2.l0 (d + 1) l (l.length : Int) (i : Int) = some z ∧ (z = true → ∀ j, j < l.length → (l.getD j []).length ≤ 2147483647) := by
  induction d with
  | zero =>
    intro i hi hj
    exact ⟨true, by rw [laws_zzFits2.l0, if_neg (by omega)], fun _ j h => hj j (by omega)⟩
  | succ d ih =>
    intro i hi hj
    rw [laws_zzFits2.l0, if_pos (by omega), if_pos (by omega), if_pos (by omega), rdL]
    by_cases h : ((l.getD i []).length : Int) > 2147483647
    · rw [if_pos h]; exact ⟨false, rfl, fun h => by cases h⟩
    · rw [if_neg h, next64 (by omega)]
      exact ih (i + 1) (by omega) (fun j h2 => by
        by_cases e : j = i
        · subst e; omega
        · exact hj j (by omega))
theorem fits (l : List (List Int)) : ∃ z k, laws_zzFits2.f k l = some z ∧ (z = true → l.length ≤ 2147483647 ∧ ∀ j, j < l.length → (l.getD j []).length ≤ 2147483647) := by
  by_cases h : (l.length : Int) > 2147483647
  · exact ⟨false, 0, by unfold laws_zzFits2.f; rw [if_pos h], fun h => by cases h⟩
  · obtain ⟨z, hz, hb⟩ := fits_loop l (by omega) l.length 0 (by omega) (fun j h => absurd h (by omega))
    exact ⟨z, l.length + 1, by unfold laws_zzFits2.f; rw [if_neg h]; exact hz, fun e => ⟨by omega, hb e⟩⟩
theorem mod_inner (L : List (List (List Int))) (n i0 : Int) (xs : List (List Int)) (hx : xs.length ≤ 2147483647) (hk : ∃ k z, laws_moderate.l0 k L n (wrap64 (i0 + 1)) = some z) (d : Nat) : ∀ i, i + d = xs.length →
    ∃ k z, laws_moderate.l1 k L n i0 xs (xs.length : Int) (i : Int) = some z := by
  induction d with
  | zero =>
    intro i hi
    obtain ⟨k, z, h⟩ := hk
    exact ⟨k + 1, z, by rw [laws_moderate.l1, if_neg (by omega)]; exact h⟩
  | succ d ih =>
    intro i hi
    by_cases h : ((rd_L1 xs (i : Int)).length : Int) > 40
    · exact ⟨1, false, by rw [laws_moderate.l1, if_pos (by omega), if_pos (by omega), if_pos (by omega), if_pos h]⟩
    · obtain ⟨k, z, hz⟩ := ih (i + 1) (by omega)
      exact ⟨k + 1, z, by rw [laws_moderate.l1, if_pos (by omega), if_pos (by omega), if_pos (by omega), if_neg h, next64 (by omega)]; exact hz⟩
theorem mod_total (L : List (List (List Int))) (hL : L.length ≤ 2147483647) (hx : ∀ j, j < L.length → (L.getD j []).length ≤ 2147483647) (d : Nat) : ∀ i, i + d = L.length → ∃ k z, laws_moderate.l0 k L (L.length : Int) (i : Int) = some z := by
  induction d with
  | zero => exact fun i hi => ⟨1, true, by rw [laws_moderate.l0, if_neg (by omega)]⟩
  | succ d ih =>
    intro i hi
    have e : rd_L2 L (i : Int) = L.getD i [] := rfl
    by_cases h : ((rd_L2 L (i : Int)).length : Int) > 40
    · exact ⟨1, false, by rw [laws_moderate.l0, if_pos (by omega), if_pos (by omega), if_pos (by omega), if_pos h]⟩
    · obtain ⟨k, z, hz⟩ := mod_inner L (L.length : Int) (i : Int) (rd_L2 L (i : Int)) (by rw [e]; exact hx i (by omega)) (by rw [next64 (by omega)]; exact ih (i + 1) (by omega)) _ 0 (Nat.zero_add _)
      exact ⟨k + 1, z, by rw [laws_moderate.l0, if_pos (by omega), if_pos (by omega), if_pos (by omega), if_neg h]; exact hz⟩
/-! ### What is a matrix -/
theorem columns {l : List (List Int)} (h : 0 < l.length) : spec_Columns.f l = some ((rd_L1 l 0).length : Int) := by
  unfold spec_Columns.f
  rw [if_neg (by omega), if_pos (by omega)]
theorem rect_loop (l : List (List Int)) (hl : l.length ≤ 2147483647) (h0 : 0 < l.length) (d : Nat) : ∀ i, i + d = l.length → (∀ j : Nat, j < i → (rd_L1 l (j : Int)).length = (rd_L1 l 0).length) →
    spec_Rectangular.l0 (d + 1) l l (l.length : Int) (i : Int) = some (decide (Rect l)) := by
  induction d with
  | zero =>
    intro i hi hj
    rw [spec_Rectangular.l0, if_neg (by omega), columns h0, Option.bind_some]
    congr 1
    by_cases h1 : 0 < (rd_L1 l 0).length
    · rw [decide_eq_true (by omega), decide_eq_true (rect_of h0 h1 (fun j h => hj j (by omega)))]
    · rw [decide_eq_false (by omega), decide_eq_false (fun h => h1 h.2.1)]
  | succ d ih =>
    intro i hi hj
    rw [spec_Rectangular.l0, if_pos (by omega), if_pos (by omega), if_pos (by omega), columns h0, Option.bind_some]
    by_cases h : ((rd_L1 l (i : Int)).length : Int) = ((rd_L1 l 0).length : Int)
    · rw [if_pos h, next64 (by omega)]
      exact ih (i + 1) (by omega) (fun j h2 => by
        by_cases e : j = i
        · subst e; omega
        · exact hj j (by omega))
    · rw [if_neg h, decide_eq_false (fun hr => h (by rw [hr.2.2 _ (rd_mem (by omega))]))]
theorem rect_eq (l : List (List Int)) (hl : l.length ≤ 2147483647) : spec_Rectangular.f (l.length + 1) l = some (decide (Rect l)) := by
  unfold spec_Rectangular.f
  by_cases h0 : 0 < l.length
  · exact rect_loop l hl h0 l.length 0 (by omega) (fun j h => absurd h (by omega))
  · rw [spec_Rectangular.l0, if_neg (by omega), decide_eq_false (fun h => h0 h.1)]
    unfold spec_Columns.f
    rw [if_pos (by omega)]; rfl
/-! ### Copies, and what is equal to itself -/
theorem rows_loop (l : List (List Int)) (hl : l.length ≤ 2147483647) (hb : ∀ j, j < l.length → (l.getD j []).length ≤ 2147483647) (d : Nat) : ∀ i, i + d = l.length →
    impl_rows.l0 (d + 1) (l.take i) l (l.length : Int) (i : Int) = some l := by
  induction d with
  | zero =>
    intro i hi
    rw [impl_rows.l0, if_neg (by omega), List.take_of_length_le (by omega)]
  | succ d ih =>
    intro i hi
    have h1 := hb i (by omega)
    have h2 : (l.take i).length < 5864062014805 := by rw [List.length_take]; omega
    rw [impl_rows.l0, if_pos (by omega), if_pos (by omega), if_pos (by omega), if_pos (by rw [rdL]; simp only [List.length_nil]; omega), if_pos h2, next64 (by omega), List.nil_append, rdL, ← drop_at l i [] (by omega)]
    exact ih (i + 1) (by omega)
theorem rows_eq (l : List (List Int)) (hl : l.length ≤ 2147483647) (hb : ∀ j, j < l.length → (l.getD j []).length ≤ 2147483647) : impl_rows.f (l.length + 1) l = some l :=
  rows_loop l hl hb l.length 0 (by omega)
theorem same_loop (l : List Int) (hl : l.length ≤ 2147483647) (d : Nat) : ∀ i, i + d = l.length → laws_equalBytes.l0 (d + 1) l l (l.length : Int) (i : Int) = some true := by
  induction d with
  | zero => exact fun i hi => by rw [laws_equalBytes.l0, if_neg (by omega)]
  | succ d ih =>
    intro i hi
    rw [laws_equalBytes.l0, if_pos (by omega), if_pos (by omega), if_pos (by omega), if_pos (by omega), if_pos rfl, next64 (by omega)]
    exact ih (i + 1) (by omega)
theorem same_eq (l : List Int) (hl : l.length ≤ 2147483647) : laws_equalBytes.f (l.length + 1) l l = some true := by
  unfold laws_equalBytes.f
  rw [if_pos rfl]
  exact same_loop l hl l.length 0 (by omega)
/-! ### The sums of products -/
def Mm (a b : Int) : Int := ((mul a.toNat b.toNat : Nat) : Int)
def Byt (a : Int) : Prop := 0 ≤ a ∧ a < 256
theorem gal {a b : Int} (ha : Byt a) (hb : Byt b) : reedsolomon_galMultiply.f a b = some (Mm a b) := by
  obtain ⟨n, rfl⟩ := Int.eq_ofNat_of_zero_le ha.1
  obtain ⟨m, rfl⟩ := Int.eq_ofNat_of_zero_le hb.1
  exact galMultiply_eq (by have := ha.2; omega) (by have := hb.2; omega)
theorem smul {a b : Int} (ha : Byt a) (hb : Byt b) (k : Nat) (hk : 57 ≤ k) : spec_Mul.f k a b = some (Mm a b) := by
  obtain ⟨n, rfl⟩ := Int.eq_ofNat_of_zero_le ha.1
  obtain ⟨m, rfl⟩ := Int.eq_ofNat_of_zero_le hb.1
  exact spec_Mul_eq (by have := ha.2; omega) (by have := hb.2; omega) k hk
section
variable (row : List Int) (a : List (List Int)) (C : Nat)
/-- The sum for column j, from row i on, d rows. -/
def col (row : List Int) (a : List (List Int)) (j : Nat) : Nat → Nat → Int → Int
  | 0, _, v => v
  | d + 1, i, v => col row a j d (i + 1) (Go.bits .xor .u8 v (Mm (rd row (i : Int)) (rd (rd_L1 a (i : Int)) (j : Int))))
/-- The row, its first j entries made. -/
def Done (row : List Int) (a : List (List Int)) (C j : Nat) : List Int := (List.range j).map fun j => col row a j row.length 0 0
def At (row : List Int) (a : List (List Int)) (C j : Nat) (v : Int) : List Int := Done row a C j ++ v :: List.replicate (C - j - 1) 0
theorem done_len (j : Nat) : (Done row a C j).length = j := by simp [Done]
theorem at_len {j : Nat} (h : j < C) (v : Int) : (At row a C j v).length = C := by
  unfold At
  rw [List.length_append, done_len, List.length_cons, List.length_replicate]; omega
theorem at_rd (j : Nat) (v : Int) : rd (At row a C j v) (j : Int) = v := by
  unfold rd At
  rw [Int.toNat_natCast, List.getD_eq_getElem?_getD, List.getElem?_append_right (by rw [done_len]; exact Nat.le_refl _), done_len, Nat.sub_self]; rfl
theorem at_put (j : Nat) (v u : Int) : (At row a C j v).set j u = At row a C j u := by
  unfold At
  rw [List.set_append_right _ _ (by rw [done_len]; exact Nat.le_refl _), done_len, Nat.sub_self]; rfl
theorem at_next (j : Nat) (h : j < C) : Done row a C j ++ List.replicate (C - j) 0 = At row a C j 0 := by
  unfold At
  rw [show C - j = (C - j - 1) + 1 by omega, List.replicate_succ]; rfl
theorem at_done (j : Nat) (h : j < C) : At row a C j (col row a j row.length 0 0) = Done row a C (j + 1) ++ List.replicate (C - (j + 1)) 0 := by
  unfold At
  have e : Done row a C (j + 1) = Done row a C j ++ [col row a j row.length 0 0] := by unfold Done; rw [List.range_succ, List.map_append]; rfl
  rw [e, List.append_assoc]; rfl
end
section
variable {row : List Int} {a : List (List Int)} {C : Nat} (hn : row.length = a.length) (hn2 : row.length ≤ 2147483647) (hC : C ≤ 2147483647) (hr : ∀ i : Nat, i < row.length → (rd_L1 a (i : Int)).length = C)
  (hb : ∀ i : Nat, i < row.length → Byt (rd row (i : Int))) (hb2 : ∀ i j : Nat, i < row.length → j < C → Byt (rd (rd_L1 a (i : Int)) (j : Int)))
include hn hn2 hC hr hb hb2
theorem prog_inner {j : Nat} (hj : j < C) (k d : Nat) : ∀ (i : Nat) (v : Int), i + d = row.length →
    reedsolomon_multiplyRowWithMatrix.l1 (k + d + 1) row a (At row a C j v) (j : Int) (C : Int) (j : Int) (row.length : Int) (i : Int) = reedsolomon_multiplyRowWithMatrix.l0 k row a (At row a C j (col row a j d i v)) (C : Int) (wrap64 ((j : Int) + 1)) := by
  induction d with
  | zero =>
    intro i v hi
    rw [reedsolomon_multiplyRowWithMatrix.l1, if_neg (by omega)]; rfl
  | succ d ih =>
    intro i v hi
    have e := at_len row a C hj v
    rw [show k + (d + 1) + 1 = (k + d + 1) + 1 by omega, reedsolomon_multiplyRowWithMatrix.l1, if_pos (by omega), if_pos (by omega), if_pos (by rw [e]; omega), if_pos (by omega), if_pos (by omega), if_pos (by omega), if_pos (by rw [hr i (by omega)]; omega), gal (hb i (by omega)) (hb2 i j (by omega) hj), Option.bind_some, next64 (by omega), at_rd]
    rw [show ((j : Int)).toNat = j from Int.toNat_natCast j, at_put]
    exact ih (i + 1) _ (by omega)
theorem prog_outer (e : Nat) : ∀ j : Nat, j + e = C → reedsolomon_multiplyRowWithMatrix.l0 (e * (row.length + 2) + 1) row a (Done row a C j ++ List.replicate (C - j) 0) (C : Int) (j : Int) = some (Done row a C C) := by
  induction e with
  | zero =>
    intro j hj
    obtain rfl : j = C := by omega
    rw [Nat.zero_mul, reedsolomon_multiplyRowWithMatrix.l0, if_neg (by omega), Nat.sub_self]
    simp
  | succ e ih =>
    intro j hj
    rw [at_next row a C j (by omega), show (e + 1) * (row.length + 2) + 1 = ((e * (row.length + 2) + 1) + row.length + 1) + 1 by rw [Nat.succ_mul]; omega, reedsolomon_multiplyRowWithMatrix.l0, if_pos (by omega)]
    have h := prog_inner hn hn2 hC hr hb hb2 (j := j) (by omega) (e * (row.length + 2) + 1) row.length 0 0 (by omega)
    rw [show ((0 : Nat) : Int) = 0 from rfl] at h
    rw [h, next64 (by omega), at_done row a C j (by omega)]
    exact ih (j + 1) (by omega)
theorem prog_eq (h0 : 0 < row.length) : reedsolomon_multiplyRowWithMatrix.f (C * (row.length + 2) + 1) row a = some (Done row a C C) := by
  unfold reedsolomon_multiplyRowWithMatrix.f
  have h := hr 0 h0
  rw [show ((0 : Nat) : Int) = 0 from rfl] at h
  rw [if_pos (by omega), if_pos (by omega), h, if_pos (by omega), Int.toNat_natCast, if_pos (by omega), Option.bind_some, List.length_replicate]
  have := prog_outer hn hn2 hC hr hb hb2 C 0 (by omega)
  exact this
theorem spec_inner {j : Nat} (hj : j < C) (k d : Nat) (hk : 57 ≤ k) : ∀ (i : Nat) (v : Int), i + d = row.length →
    spec_Times.l2 (k + d + 1) [row] a [At row a C j v] 0 (j : Int) 1 0 (C : Int) (j : Int) (a.length : Int) (i : Int) = spec_Times.l1 k [row] a [At row a C j (col row a j d i v)] 0 1 0 (C : Int) (wrap64 ((j : Int) + 1)) := by
  induction d with
  | zero =>
    intro i v hi
    rw [spec_Times.l2, if_neg (by omega)]; rfl
  | succ d ih =>
    intro i v hi
    have e := at_len row a C hj v
    have e1 : rd_L1 [At row a C j v] 0 = At row a C j v := rfl
    have e2 : rd_L1 [row] 0 = row := rfl
    rw [show k + (d + 1) + 1 = (k + d + 1) + 1 by omega, spec_Times.l2, e1, e2, if_pos (by omega), if_pos (by omega), if_pos (by simp), if_pos (by omega), if_pos (by rw [e]; omega), if_pos (by simp), if_pos (by omega), if_pos (by omega), if_pos (by omega), if_pos (by rw [hr i (by omega)]; omega), smul (hb i (by omega)) (hb2 i j (by omega) hj) _ (by omega), Option.bind_some, next64 (by omega), at_rd]
    rw [show ((j : Int)).toNat = j from Int.toNat_natCast j, at_put]
    exact ih (i + 1) _ (by omega)
theorem spec_outer (e : Nat) : ∀ j : Nat, j + e = C → spec_Times.l1 (e * (row.length + 2) + 60) [row] a [Done row a C j ++ List.replicate (C - j) 0] 0 1 0 (C : Int) (j : Int) = some [Done row a C C] := by
  induction e with
  | zero =>
    intro j hj
    obtain rfl : j = C := by omega
    rw [Nat.zero_mul, show 0 + 60 = 59 + 1 from rfl, spec_Times.l1, if_neg (by omega), Nat.sub_self, show wrap64 (0 + 1) = 1 from by unfold wrap64; omega, spec_Times.l0, if_neg (by omega)]
    simp
  | succ e ih =>
    intro j hj
    rw [at_next row a C j (by omega), show (e + 1) * (row.length + 2) + 60 = ((e * (row.length + 2) + 60) + row.length + 1) + 1 by rw [Nat.succ_mul]; omega, spec_Times.l1, if_pos (by omega)]
    have h := spec_inner hn hn2 hC hr hb hb2 (j := j) (by omega) (e * (row.length + 2) + 60) row.length (by omega) 0 0 (by omega)
    rw [show ((0 : Nat) : Int) = 0 from rfl] at h
    rw [h, next64 (by omega), at_done row a C j (by omega)]
    exact ih (j + 1) (by omega)
theorem spec_eq (h0 : 0 < row.length) : spec_Times.f (C * (row.length + 2) + 61) [row] a = some [Done row a C C] := by
  unfold spec_Times.f
  have h := hr 0 h0
  rw [show ((0 : Nat) : Int) = 0 from rfl] at h
  rw [columns (by omega), Option.bind_some, h]
  have hz : spec_Zeros.f (C * (row.length + 2) + 61) (([row] : List (List Int)).length : Int) (C : Int) = some [List.replicate C 0] := by
    unfold spec_Zeros.f
    rw [if_pos (by simp), if_pos (by simp)]
    show spec_Zeros.l0 (C * (row.length + 2) + 59 + 1 + 1) (C : Int) [[]] 1 0 = _
    rw [spec_Zeros.l0, if_pos (by omega), if_pos (by omega), if_pos (by omega), if_pos (by omega), if_pos (by simp), show wrap64 (0 + 1) = 1 from by unfold wrap64; omega, spec_Zeros.l0, if_neg (by omega)]
    rfl
  rw [hz, Option.bind_some]
  show spec_Times.l0 (C * (row.length + 2) + 60 + 1) [row] a [List.replicate C 0] 1 0 = _
  rw [spec_Times.l0, if_pos (by omega), if_pos (by omega), if_pos (by simp)]
  show spec_Times.l1 (C * (row.length + 2) + 60) [row] a [List.replicate C 0] 0 1 0 ((List.replicate C (0 : Int)).length : Int) 0 = _
  rw [List.length_replicate]
  exact spec_outer hn hn2 hC hr hb hb2 C 0 (by omega)
end
theorem byt {a : Int} (h : (Lit.int .u8 a).wf = true) : Byt a := by
  obtain ⟨n, rfl, hn⟩ := wf_u8 h
  exact ⟨by omega, by omega⟩
theorem byt_rd {l : List Int} (h : ∀ x ∈ l, (Lit.int .u8 x).wf = true) (i : Nat) : Byt (rd l (i : Int)) := by
  unfold rd
  rw [Int.toNat_natCast, List.getD_eq_getElem?_getD]
  by_cases hi : i < l.length
  · rw [List.getElem?_eq_getElem hi]; exact byt (h _ (List.getElem_mem hi))
  · rw [List.getElem?_eq_none (by omega)]; exact ⟨by decide, by decide⟩
theorem FnMatrixRow (l0 : List (Int)) (l1 : List (List (Int))) (w0 : l0.length ≤ maxLen ∧ ∀ l0' ∈ l0, (Lit.int .u8 l0').wf = true) (w1 : l1.length ≤ maxLen ∧ ∀ l1' ∈ l1, l1'.length ≤ maxLen ∧ ∀ l1'' ∈ l1', (Lit.int .u8 l1'').wf = true) : ∃ k, laws_FnMatrixRow.f k l0 l1 = some true := by
  by_cases z0 : (l0.length : Int) > 2147483647
  · exact ⟨0, by unfold laws_FnMatrixRow.f; rw [if_pos z0]⟩
  obtain ⟨z, kz, hz, hfit⟩ := fits l1
  cases z with
  | false => exact ⟨kz, by unfold laws_FnMatrixRow.f; rw [if_neg z0, hz, Option.bind_some, if_pos rfl]⟩
  | true =>
  obtain ⟨f1, f2⟩ := hfit rfl
  obtain ⟨km, m, hm⟩ := mod_total [l1, [l0]] (by simp) (fun j hj => by
    rcases j with _ | _ | j
    · exact f1
    · simp
    · exact absurd hj (by simp only [List.length_cons, List.length_nil]; omega)) 2 0 rfl
  have hm : laws_moderate.f km [l1, [l0]] = some m := hm
  have hZ : ∀ {K : Nat}, kz ≤ K → laws_zzFits2.f K l1 = some true := fun h => lift (fun k => laws_zzFits2.mono l1 k) hz h
  have hM : ∀ {K : Nat}, km ≤ K → laws_moderate.f K [l1, [l0]] = some m := fun h => lift (fun k => laws_moderate.mono [l1, [l0]] k) hm h
  cases m with
  | false =>
    refine ⟨kz + km, ?_⟩
    unfold laws_FnMatrixRow.f
    rw [if_neg z0, hZ (by omega), Option.bind_some, if_neg (by decide), hM (by omega), Option.bind_some, if_pos rfl]
  | true =>
  have hR : ∀ {K : Nat}, l1.length + 1 ≤ K → spec_Rectangular.f K l1 = some (decide (Rect l1)) := fun h => lift (fun k => spec_Rectangular.mono l1 k) (rect_eq l1 f1) h
  by_cases hrect : Rect l1 ∧ l0.length = l1.length
  · obtain ⟨hrc, hn⟩ := hrect
    obtain ⟨C, hCe⟩ : ∃ C, (rd_L1 l1 0).length = C := ⟨_, rfl⟩
    have hpos : 0 < l0.length := by have := hrc.1; omega
    have hC : C ≤ 2147483647 := by rw [← hCe]; exact f2 0 hrc.1
    have hr : ∀ i : Nat, i < l0.length → (rd_L1 l1 (i : Int)).length = C := fun i h => by rw [hrc.2.2 _ (rd_mem (by omega)), hCe]
    have hb : ∀ i : Nat, i < l0.length → Byt (rd l0 (i : Int)) := fun i _ => byt_rd w0.2 i
    have hb2 : ∀ i j : Nat, i < l0.length → j < C → Byt (rd (rd_L1 l1 (i : Int)) (j : Int)) := fun i j h _ => byt_rd (w1.2 _ (rd_mem (by omega))).2 j
    have e1 := prog_eq hn (by omega) hC hr hb hb2 hpos
    have e2 := spec_eq hn (by omega) hC hr hb hb2 hpos
    have e3 := same_eq (Done l0 l1 C C) (by rw [done_len]; exact hC)
    have e4 := rows_eq l1 f1 f2
    rw [done_len] at e3
    obtain ⟨K, hK⟩ : ∃ K, K = kz + km + l1.length + C + C * (l0.length + 2) + 100 := ⟨_, rfl⟩
    refine ⟨K + 1, ?_⟩
    have hT : impl_RowTimes.f (K + 1) l0 l1 = some (Done l0 l1 C C, true) := by
      unfold impl_RowTimes.f impl_isMatrix.f
      rw [decide_eq_true hrc, Option.bind_some, if_pos rfl, bne_eq_false_iff_eq.mpr (by omega : (l0.length : Int) = (l1.length : Int)), impl_RowTimes.j0, if_neg (by decide), if_pos (by simp only [List.length_nil]; omega), lift (fun k => impl_rows.mono l1 k) e4 (show l1.length + 1 ≤ K by omega), Option.bind_some]
      unfold reedsolomon_DoorRowTimes.f
      rw [List.nil_append, lift (fun k => reedsolomon_multiplyRowWithMatrix.mono l0 l1 k) e1 (show C * (l0.length + 2) + 1 ≤ K by omega)]
      rfl
    unfold laws_FnMatrixRow.f
    rw [if_neg z0, hZ (by omega), Option.bind_some, if_neg (by decide), hM (by omega), Option.bind_some, if_neg (by decide), hT, Option.bind_some, hR (by omega), Option.bind_some, if_neg (by rw [decide_eq_true hrc]; simp [hn]), if_neg (by simp),
      lift (fun k => spec_Times.mono [l0] l1 k) e2 (show C * (l0.length + 2) + 61 ≤ K + 1 by omega), Option.bind_some, if_pos (by simp)]
    exact lift (fun k => laws_equalBytes.mono _ _ k) e3 (by omega)
  · obtain ⟨K, hK⟩ : ∃ K, K = kz + km + l1.length + 100 := ⟨_, rfl⟩
    refine ⟨K + 1, ?_⟩
    have hT : impl_RowTimes.f (K + 1) l0 l1 = some (([] : List Int), false) := by
      unfold impl_RowTimes.f impl_isMatrix.f
      rw [Option.bind_some]
      by_cases hrc : Rect l1
      · rw [decide_eq_true hrc, if_pos rfl, bne_iff_ne.mpr (fun e => hrect ⟨hrc, by omega⟩), impl_RowTimes.j0, if_pos rfl]
      · rw [decide_eq_false hrc, if_neg (by decide), impl_RowTimes.j0, if_pos rfl]
    unfold laws_FnMatrixRow.f
    rw [if_neg z0, hZ (by omega), Option.bind_some, if_neg (by decide), hM (by omega), Option.bind_some, if_neg (by decide), hT, Option.bind_some, hR (by omega), Option.bind_some, if_pos (by
      by_cases hrc : Rect l1
      · exact .inr (fun e => hrect ⟨hrc, by omega⟩)
      · exact .inl (decide_eq_false hrc))]
    rfl
end Go.Proofs.YtladpdeneiaaeaaDoor.Pure
