import Derived.Test.YtladpdeneiaaeaaDoorPInvx5
import Derived.Test.YtladpdeneiaaeaaDoorNum
/-! The law on the inverse of a matrix, over lists of numbers alone. -/
namespace Go.Proofs.YtladpdeneiaaeaaDoor.Pure
open Go.RowKit Go.Proofs.YtladpdeneiaaeaaDoor.Num Go.Proofs.YtladpdeneiaaeaaDoor.PInv Go.Proofs.YtladpdeneiaaeaaDoorW.PrintWords Go.Proofs.YtladpdeneiaaeaaDoorW.PrintLast
open Go.Proofs.YtladpdeneiaaeaaDoor.Inv (Sh Rw Byte MM XX II fld red gauss same el aug unitM unitL zer right inv aug_at aug_sh unitM_sh zeros_eq zer_sh getD_set ext_getD rep_at right_at drop_getD rw_drop)
set_option linter.unusedVariables false
set_option linter.unusedSectionVars false
/-- At least one row and one column, rows of one length. -/
def Rect (l : List (List Int)) : Prop := 0 < l.length ∧ 0 < (rd_L1 l 0).length ∧ ∀ x ∈ l, x.length = (rd_L1 l 0).length
instance (l : List (List Int)) : Decidable (Rect l) := by unfold Rect; infer_instance
theorem next64 {i : Nat} (h : i < 9223372036854775807) : wrap64 ((i : Int) + 1) = ((i + 1 : Nat) : Int) := by unfold wrap64; omega
theorem rd_L1_nat (l : List (List Int)) (i : Nat) : rd_L1 l (i : Int) = l.getD i [] := rfl
theorem rd_mem {l : List (List Int)} {i : Nat} (h : i < l.length) : rd_L1 l (i : Int) ∈ l := by
  rw [rd_L1_nat, List.getD_eq_getElem?_getD, List.getElem?_eq_getElem h]; exact List.getElem_mem h
theorem rect_of {l : List (List Int)} (h0 : 0 < l.length) (h1 : 0 < (rd_L1 l 0).length) (h : ∀ j : Nat, j < l.length → (rd_L1 l (j : Int)).length = (rd_L1 l 0).length) : Rect l := by
  refine ⟨h0, h1, fun x hx => ?_⟩
  obtain ⟨j, hj, rfl⟩ := List.getElem_of_mem hx
  have := h j hj
  rw [rd_L1_nat, List.getD_eq_getElem?_getD, List.getElem?_eq_getElem hj] at this
  exact this
theorem lift {α : Type} {F : Nat → Option α} (hm : ∀ k, LeO (F k) (F (k + 1))) {k : Nat} {r : α} (h : F k = some r) : ∀ {K : Nat}, k ≤ K → F K = some r := by
  intro K hK
  obtain ⟨d, rfl⟩ := Nat.exists_eq_add_of_le hK
  clear hK
  induction d with
  | zero => exact h
  | succ d ih => exact hm _ _ ih
theorem rdL (l : List (List Int)) (i : Nat) : rd_L1 l (i : Int) = l.getD i [] := rfl
theorem drop_at {α : Type} (l : List α) (i : Nat) (d : α) (h : i < l.length) : l.take (i + 1) = l.take i ++ [l.getD i d] := by
  rw [List.getD_eq_getElem?_getD, List.getElem?_eq_getElem h, Option.getD_some, List.take_succ_eq_append_getElem h]
/-! ### Sizes -/
theorem fits_loop (l : List (List Int)) (hl : l.length ≤ 2147483647) (d : Nat) : ∀ i, i + d = l.length → (∀ j, j < i → (l.getD j []).length ≤ 2147483647) →
    ∃ z, laws_zzFits2.l0 (d + 1) l (l.length : Int) (i : Int) = some z ∧ (z = true → ∀ j, j < l.length → (l.getD j []).length ≤ 2147483647) := by
  induction d with
  | zero =>
    intro i hi hj
    exact ⟨true, by rw [laws_zzFits2.l0, if_neg (by omega)], fun _ j h => hj j (by omega)⟩
  | succ d ih =>
    intro i hi hj
    rw [laws_zzFits2.l0, if_pos (by omega), if_pos (by omega), if_pos (by omega), rdL]
    by_cases h : ((l.getD i []).length : Int) > 2147483647
    · rw [if_pos h]; exact ⟨false, rfl, fun h => by cases h⟩
    · rw [if_neg h, next64 (by omega)]
      exact ih (i + 1) (by omega) (fun j h2 => by
        by_cases e : j = i
        · subst e; omega
        · exact hj j (by omega))
theorem fits (l : List (List Int)) : ∃ z k, laws_zzFits2.f k l = some z ∧ (z = true → l.length ≤ 2147483647 ∧ ∀ j, j < l.length → (l.getD j []).length ≤ 2147483647) := by
  by_cases h : (l.length : Int) > 2147483647
  · exact ⟨false, 0, by unfold laws_zzFits2.f; rw [if_pos h], fun h => by cases h⟩
  · obtain ⟨z, hz, hb⟩ := fits_loop l (by omega) l.length 0 (by omega) (fun j h => absurd h (by omega))
    exact ⟨z, l.length + 1, by unfold laws_zzFits2.f; rw [if_neg h]; exact hz, fun e => ⟨by omega, hb e⟩⟩
theorem mod_inner (L : List (List (List Int))) (n i0 : Int) (xs : List (List Int)) (hx : xs.length ≤ 2147483647) (hk : ∃ k z, laws_moderate.l0 k L n (wrap64 (i0 + 1)) = some z) (d : Nat) : ∀ i, i + d = xs.length →
    ∃ k z, laws_moderate.l1 k L n i0 xs (xs.length : Int) (i : Int) = some z := by
  induction d with
  | zero =>
    intro i hi
    obtain ⟨k, z, h⟩ := hk
    exact ⟨k + 1, z, by rw [laws_moderate.l1, if_neg (by omega)]; exact h⟩
  | succ d ih =>
    intro i hi
    by_cases h : ((rd_L1 xs (i : Int)).length : Int) > 40
    · exact ⟨1, false, by rw [laws_moderate.l1, if_pos (by omega), if_pos (by omega), if_pos (by omega), if_pos h]⟩
    · obtain ⟨k, z, hz⟩ := ih (i + 1) (by omega)
      exact ⟨k + 1, z, by rw [laws_moderate.l1, if_pos (by omega), if_pos (by omega), if_pos (by omega), if_neg h, next64 (by omega)]; exact hz⟩
theorem mod_total (L : List (List (List Int))) (hL : L.length ≤ 2147483647) (hx : ∀ j, j < L.length → (L.getD j []).length ≤ 2147483647) (d : Nat) : ∀ i, i + d = L.length → ∃ k z, laws_moderate.l0 k L (L.length : Int) (i : Int) = some z := by
  induction d with
  | zero => exact fun i hi => ⟨1, true, by rw [laws_moderate.l0, if_neg (by omega)]⟩
  | succ d ih =>
    intro i hi
    have e : rd_L3 L (i : Int) = L.getD i [] := rfl
    by_cases h : ((rd_L3 L (i : Int)).length : Int) > 40
    · exact ⟨1, false, by rw [laws_moderate.l0, if_pos (by omega), if_pos (by omega), if_pos (by omega), if_pos h]⟩
    · obtain ⟨k, z, hz⟩ := mod_inner L (L.length : Int) (i : Int) (rd_L3 L (i : Int)) (by rw [e]; exact hx i (by omega)) (by rw [next64 (by omega)]; exact ih (i + 1) (by omega)) _ 0 (Nat.zero_add _)
      exact ⟨k + 1, z, by rw [laws_moderate.l0, if_pos (by omega), if_pos (by omega), if_pos (by omega), if_neg h]; exact hz⟩
/-! ### What is a matrix -/
theorem columns {l : List (List Int)} (h : 0 < l.length) : spec_Columns.f l = some ((rd_L1 l 0).length : Int) := by
  unfold spec_Columns.f
  rw [if_neg (by omega), if_pos (by omega)]
theorem rect_loop (l : List (List Int)) (hl : l.length ≤ 2147483647) (h0 : 0 < l.length) (d : Nat) : ∀ i, i + d = l.length → (∀ j : Nat, j < i → (rd_L1 l (j : Int)).length = (rd_L1 l 0).length) →
    spec_Rectangular.l0 (d + 1) l l (l.length : Int) (i : Int) = some (decide (Rect l)) := by
  induction d with
  | zero =>
    intro i hi hj
    rw [spec_Rectangular.l0, if_neg (by omega), columns h0, Option.bind_some]
    congr 1
    by_cases h1 : 0 < (rd_L1 l 0).length
    · rw [decide_eq_true (by omega), decide_eq_true (rect_of h0 h1 (fun j h => hj j (by omega)))]
    · rw [decide_eq_false (by omega), decide_eq_false (fun h => h1 h.2.1)]
  | succ d ih =>
    intro i hi hj
    rw [spec_Rectangular.l0, if_pos (by omega), if_pos (by omega), if_pos (by omega), columns h0, Option.bind_some]
    by_cases h : ((rd_L1 l (i : Int)).length : Int) = ((rd_L1 l 0).length : Int)
    · rw [if_pos h, next64 (by omega)]
      exact ih (i + 1) (by omega) (fun j h2 => by
        by_cases e : j = i
        · subst e; omega
        · exact hj j (by omega))
    · rw [if_neg h, decide_eq_false (fun hr => h (by rw [hr.2.2 _ (rd_mem (by omega))]))]
theorem rect_eq (l : List (List Int)) (hl : l.length ≤ 2147483647) : spec_Rectangular.f (l.length + 1) l = some (decide (Rect l)) := by
  unfold spec_Rectangular.f
  by_cases h0 : 0 < l.length
  · exact rect_loop l hl h0 l.length 0 (by omega) (fun j h => absurd h (by omega))
  · rw [spec_Rectangular.l0, if_neg (by omega), decide_eq_false (fun h => h0 h.1)]
    unfold spec_Columns.f
    rw [if_pos (by omega)]; rfl
/-! ### Copies -/
theorem rows_loop (l : List (List Int)) (hl : l.length ≤ 2147483647) (hb : ∀ j, j < l.length → (l.getD j []).length ≤ 2147483647) (d : Nat) : ∀ i, i + d = l.length →
    impl_rows.l0 (d + 1) (l.take i) l (l.length : Int) (i : Int) = some l := by
  induction d with
  | zero =>
    intro i hi
    rw [impl_rows.l0, if_neg (by omega), List.take_of_length_le (by omega)]
  | succ d ih =>
    intro i hi
    have h1 := hb i (by omega)
    have h2 : (l.take i).length < 5864062014805 := by rw [List.length_take]; omega
    rw [impl_rows.l0, if_pos (by omega), if_pos (by omega), if_pos (by omega), if_pos (by rw [rdL]; simp only [List.length_nil]; omega), if_pos h2, next64 (by omega), List.nil_append, rdL, ← drop_at l i [] (by omega)]
    exact ih (i + 1) (by omega)
theorem rows_eq (l : List (List Int)) (hl : l.length ≤ 2147483647) (hb : ∀ j, j < l.length → (l.getD j []).length ≤ 2147483647) : impl_rows.f (l.length + 1) l = some l :=
  rows_loop l hl hb l.length 0 (by omega)
/-! ### A matrix is equal to itself -/
theorem eq_inner (x : List (List Int)) (i : Nat) (hi : i < x.length) (n m : Int) (hb : (rd_L1 x (i : Int)).length ≤ 2147483647) (k d : Nat) : ∀ j, j + d = (rd_L1 x (i : Int)).length →
    spec_EqualMatrices.l1 (k + d + 1) x x (i : Int) n m ((rd_L1 x (i : Int)).length : Int) (j : Int) = spec_EqualMatrices.l0 k x x n (wrap64 (m + 1)) := by
  induction d with
  | zero =>
    intro j hj
    rw [spec_EqualMatrices.l1, if_neg (by omega)]
  | succ d ih =>
    intro j hj
    rw [show k + (d + 1) + 1 = (k + d + 1) + 1 by omega, spec_EqualMatrices.l1, if_pos (by omega), if_pos (by omega), if_pos (by omega), if_pos (by omega), if_pos (by omega), if_pos (by omega), if_pos (by omega), if_pos rfl, next64 (by omega)]
    exact ih (j + 1) (by omega)
theorem eq_outer (x : List (List Int)) (hx : x.length ≤ 2147483647) (hb : ∀ j : Nat, j < x.length → (rd_L1 x (j : Int)).length ≤ 2147483647) (d : Nat) : ∀ i, i + d = x.length → ∃ k, spec_EqualMatrices.l0 k x x (x.length : Int) (i : Int) = some true := by
  induction d with
  | zero => exact fun i hi => ⟨1, by rw [spec_EqualMatrices.l0, if_neg (by omega)]⟩
  | succ d ih =>
    intro i hi
    obtain ⟨k, hk⟩ := ih (i + 1) (by omega)
    refine ⟨k + (rd_L1 x (i : Int)).length + 1 + 1, ?_⟩
    rw [spec_EqualMatrices.l0, if_pos (by omega), if_pos (by omega), if_pos (by omega), if_pos (by omega), if_pos rfl]
    have h := eq_inner x i (by omega) (x.length : Int) (i : Int) (hb i (by omega)) k (rd_L1 x (i : Int)).length 0 (by omega)
    rw [show ((0 : Nat) : Int) = 0 from rfl] at h
    rw [h, next64 (by omega)]
    exact hk
theorem eq_self (x : List (List Int)) (hx : x.length ≤ 2147483647) (hb : ∀ j : Nat, j < x.length → (rd_L1 x (j : Int)).length ≤ 2147483647) : ∃ k, spec_EqualMatrices.f k x x = some true := by
  obtain ⟨k, hk⟩ := eq_outer x hx hb x.length 0 (by omega)
  exact ⟨k, by unfold spec_EqualMatrices.f; rw [if_pos rfl]; exact hk⟩
/-! ### Two matrices compared -/
theorem cmp_inner (x y : List (List Int)) (i : Nat) (hi : i < x.length) (hi2 : i < y.length) (n m : Int) (hb : (rd_L1 x (i : Int)).length ≤ 2147483647) (he : (rd_L1 x (i : Int)).length = (rd_L1 y (i : Int)).length) (P : Prop)
    (hk : ∃ k z, spec_EqualMatrices.l0 k x y n (wrap64 (m + 1)) = some z ∧ (z = true → P)) (d : Nat) : ∀ j, j + d = (rd_L1 x (i : Int)).length → (∀ c : Nat, c < j → rd (rd_L1 x (i : Int)) (c : Int) = rd (rd_L1 y (i : Int)) (c : Int)) →
    ∃ k z, spec_EqualMatrices.l1 k x y (i : Int) n m ((rd_L1 x (i : Int)).length : Int) (j : Int) = some z ∧ (z = true → P ∧ ∀ c : Nat, c < (rd_L1 x (i : Int)).length → rd (rd_L1 x (i : Int)) (c : Int) = rd (rd_L1 y (i : Int)) (c : Int)) := by
  induction d with
  | zero =>
    intro j hj hc
    obtain ⟨k, z, h, hz⟩ := hk
    exact ⟨k + 1, z, by rw [spec_EqualMatrices.l1, if_neg (by omega)]; exact h, fun e => ⟨hz e, fun c hc2 => hc c (by omega)⟩⟩
  | succ d ih =>
    intro j hj hc
    by_cases e : rd (rd_L1 x (i : Int)) (j : Int) = rd (rd_L1 y (i : Int)) (j : Int)
    · obtain ⟨k, z, h, hz⟩ := ih (j + 1) (by omega) (fun c h2 => by
        by_cases e2 : c = j
        · subst e2; exact e
        · exact hc c (by omega))
      exact ⟨k + 1, z, by rw [spec_EqualMatrices.l1, if_pos (by omega), if_pos (by omega), if_pos (by omega), if_pos (by omega), if_pos (by omega), if_pos (by omega), if_pos (by omega), if_pos e, next64 (by omega)]; exact h, hz⟩
    · exact ⟨1, false, by rw [spec_EqualMatrices.l1, if_pos (by omega), if_pos (by omega), if_pos (by omega), if_pos (by omega), if_pos (by omega), if_pos (by omega), if_pos (by omega), if_neg e], fun h => by cases h⟩
theorem cmp_outer (x y : List (List Int)) (hxy : x.length = y.length) (hx : x.length ≤ 2147483647) (hb : ∀ j : Nat, j < x.length → (rd_L1 x (j : Int)).length ≤ 2147483647) (he : ∀ j : Nat, j < x.length → (rd_L1 x (j : Int)).length = (rd_L1 y (j : Int)).length) (d : Nat) :
    ∀ i, i + d = x.length → ∃ k z, spec_EqualMatrices.l0 k x y (x.length : Int) (i : Int) = some z ∧ (z = true → ∀ j : Nat, i ≤ j → j < x.length → rd_L1 x (j : Int) = rd_L1 y (j : Int)) := by
  induction d with
  | zero => exact fun i hi => ⟨1, true, by rw [spec_EqualMatrices.l0, if_neg (by omega)], fun _ j h1 h2 => absurd h2 (by omega)⟩
  | succ d ih =>
    intro i hi
    obtain ⟨k, z, h, hz⟩ := cmp_inner x y i (by omega) (by omega) (x.length : Int) (i : Int) (hb i (by omega)) (he i (by omega)) _ (by rw [next64 (by omega)]; exact ih (i + 1) (by omega)) (rd_L1 x (i : Int)).length 0 (by omega) (fun c h => absurd h (by omega))
    refine ⟨k + 1, z, by rw [spec_EqualMatrices.l0, if_pos (by omega), if_pos (by omega), if_pos (by omega), if_pos (by omega), if_pos (by rw [he i (by omega)])]; exact h, fun e j h1 h2 => ?_⟩
    obtain ⟨p1, p2⟩ := hz e
    by_cases e2 : j = i
    · subst e2
      exact ext_getD 0 (he j h2) (fun c hc => p2 c hc)
    · exact p1 j (by omega) h2
theorem differ {x y : List (List Int)} (hxy : x.length = y.length) (hx : x.length ≤ 2147483647) (hb : ∀ j : Nat, j < x.length → (rd_L1 x (j : Int)).length ≤ 2147483647) (he : ∀ j : Nat, j < x.length → (rd_L1 x (j : Int)).length = (rd_L1 y (j : Int)).length) (hn : x ≠ y) :
    ∃ k, spec_EqualMatrices.f k x y = some false := by
  obtain ⟨k, z, h, hz⟩ := cmp_outer x y hxy hx hb he x.length 0 (by omega)
  cases z with
  | false => exact ⟨k, by unfold spec_EqualMatrices.f; rw [if_pos (by omega)]; exact h⟩
  | true => exact absurd (ext_getD [] hxy (fun j hj => hz rfl j (Nat.zero_le _) hj)) hn
/-! ### The identity -/
theorem unitL_at {n : Nat} (d : Nat) : ∀ i (V : Inv.Mat) j, i + d = n → V.length = n → j < n → (unitL d i V).getD j [] = if i ≤ j then (V.getD j []).set j 1 else V.getD j [] := by
  induction d with
  | zero => intro i V j hi hl hj; rw [unitL, if_neg (by omega)]
  | succ d ih =>
    intro i V j hi hl hj
    rw [unitL, ih (i + 1) _ j (by omega) (by rw [List.length_set, hl]) hj, getD_set _ _ _ _ _ (by omega)]
    by_cases e : i = j
    · rw [if_neg (by omega), if_pos e, if_pos (by omega), e]
    · rw [if_neg e]
      by_cases h : i + 1 ≤ j
      · rw [if_pos h, if_pos (by omega)]
      · rw [if_neg h, if_neg (by omega)]
theorem unitM_at {n i j : Nat} (hi : i < n) (hj : j < n) : el (unitM n) i j = if i = j then 1 else 0 := by
  unfold el unitM
  rw [unitL_at n 0 (zer n n) i (by omega) (zer_sh n n).1 hi, if_pos (Nat.zero_le _)]
  unfold zer
  rw [rep_at n i _ _ hi, getD_set _ _ _ _ _ (by rw [List.length_replicate]; exact hi), rep_at n j _ _ hj]
theorem unit_loop (n : Nat) (hn : n < 1000000) (d : Nat) : ∀ i (V : Inv.Mat), i + d = n → Sh n n V → spec_Unit.l0 (d + 1) V (n : Int) (i : Int) = some (unitL d i V) := by
  induction d with
  | zero =>
    intro i V hi h
    rw [spec_Unit.l0, if_neg (by omega)]; rfl
  | succ d ih =>
    intro i V hi h
    have hl := h.1
    have hr : (rd_L1 V (i : Int)).length = n := (h.2 i (by omega)).1
    rw [spec_Unit.l0, if_pos (by omega), if_pos (by omega), if_pos (by omega), if_pos (by omega), next64 (by omega)]
    exact ih (i + 1) _ (by omega) (Inv.sh_set h (by omega) (Inv.rw_set (h.2 i (by omega)) 1 ⟨by decide, by decide⟩))
theorem unit_eq {n : Nat} (hn : n < 1000000) : spec_Unit.f (n + 1) (n : Int) = some (unitM n) := by
  unfold spec_Unit.f
  rw [zeros_eq hn hn, Option.bind_some, (zer_sh n n).1]
  exact unit_loop n hn n 0 (zer n n) (by omega) (zer_sh n n)
theorem beside_loop {n L M : Nat} (a b : Inv.Mat) (ha : Sh n L a) (hb : Sh n M b) (hn : n < 1000000) (hL : L < 1000000) (hM : M < 1000000) (d : Nat) : ∀ i, i + d = n → spec_Beside.l0 (d + 1) a b ((aug a b).take i) (n : Int) (i : Int) = some (aug a b) := by
  have hs := (aug_sh ha hb).1
  have la := ha.1
  have lb := hb.1
  induction d with
  | zero =>
    intro i hi
    rw [spec_Beside.l0, if_neg (by omega), List.take_of_length_le (by omega)]
  | succ d ih =>
    intro i hi
    have ra : (rd_L1 a (i : Int)).length = L := (ha.2 i (by omega)).1
    have rb : (rd_L1 b (i : Int)).length = M := (hb.2 i (by omega)).1
    have e : (aug a b).take i ++ [rd_L1 a (i : Int) ++ rd_L1 b (i : Int)] = (aug a b).take (i + 1) := by
      rw [drop_at (aug a b) i [] (by omega), aug_at (by omega) (by omega)]; rfl
    rw [spec_Beside.l0, if_pos (by omega), Option.bind_some, if_pos (by omega), if_pos (by omega), List.nil_append, if_pos (by rw [List.length_nil]; omega), Option.bind_some, if_pos (by omega), if_pos (by omega), if_pos (by rw [List.length_take]; omega), next64 (by omega), e]
    exact ih (i + 1) (by omega)
theorem beside_eq {n L M : Nat} {a b : Inv.Mat} (ha : Sh n L a) (hb : Sh n M b) (hn : n < 1000000) (hL : L < 1000000) (hM : M < 1000000) : spec_Beside.f (n + 1) a b = some (aug a b) := by
  unfold spec_Beside.f
  rw [ha.1]
  exact beside_loop a b ha hb hn hL hM n 0 (by omega)
/-- The columns from p up to q. -/
def cols (p q : Nat) (G : Inv.Mat) : Inv.Mat := G.map fun x => (x.take q).drop p
theorem cols_at {p q i : Nat} {G : Inv.Mat} (hi : i < G.length) : (cols p q G).getD i [] = ((G.getD i []).take q).drop p := by
  unfold cols
  simp only [List.getD_eq_getElem?_getD, List.getElem?_map, List.getElem?_eq_getElem hi, Option.map_some, Option.getD_some]
theorem block_loop {n L p q : Nat} (G : Inv.Mat) (hG : Sh n L G) (hp : p ≤ q) (hq : q ≤ L) (hn : n < 1000000) (hL : L < 1000000) (d : Nat) : ∀ i, i + d = n → spec_Block.l0 (d + 1) (p : Int) (q : Int) ((cols p q G).take i) G (n : Int) (i : Int) = some (cols p q G) := by
  have hl := hG.1
  have hs : (cols p q G).length = n := by unfold cols; rw [List.length_map, hl]
  induction d with
  | zero =>
    intro i hi
    rw [spec_Block.l0, if_neg (by omega), List.take_of_length_le (by omega)]
  | succ d ih =>
    intro i hi
    have ra : (rd_L1 G (i : Int)).length = L := (hG.2 i (by omega)).1
    have e : (cols p q G).take i ++ [((rd_L1 G (i : Int)).take q).drop p] = (cols p q G).take (i + 1) := by
      rw [drop_at (cols p q G) i [] (by omega), cols_at (by omega)]; rfl
    rw [spec_Block.l0, if_pos (by omega), if_pos (by omega), if_pos (by omega), Option.bind_some, if_pos (by omega), if_pos (by omega), if_pos (by omega), List.nil_append, Int.toNat_natCast, Int.toNat_natCast, if_pos (by rw [List.length_nil, List.length_drop, List.length_take]; omega), if_pos (by rw [List.length_take]; omega), next64 (by omega), e]
    exact ih (i + 1) (by omega)
theorem block_eq {n L p q : Nat} {G : Inv.Mat} (hG : Sh n L G) (hp : p ≤ q) (hq : q ≤ L) (hn : n < 1000000) (hL : L < 1000000) : spec_Block.f (n + 1) G 0 (p : Int) (n : Int) (q : Int) = some (cols p q G) := by
  have hl := hG.1
  unfold spec_Block.f
  rw [if_pos (by omega), if_pos (by omega), if_pos (by omega), Option.bind_some, Int.toNat_natCast, show (0 : Int).toNat = 0 from rfl, List.drop_zero, List.take_of_length_le (by omega), hl]
  exact block_loop G hG hp hq hn hL n 0 (by omega)
/-! ### Both inverses -/
theorem cols_sh {n L p q : Nat} {G : Inv.Mat} (hG : Sh n L G) (hq : q ≤ L) : (cols p q G).length = n ∧ ∀ j, j < n → (rd_L1 (cols p q G) (j : Int)).length = q - p := by
  refine ⟨by unfold cols; rw [List.length_map, hG.1], fun j hj => ?_⟩
  rw [rd_L1_nat, cols_at (by rw [hG.1]; exact hj), List.length_drop, List.length_take, (hG.2 j hj).1, Nat.min_eq_left hq]
theorem cols_el {n L q i j : Nat} {G : Inv.Mat} (hG : Sh n L G) (hi : i < n) (hj : j < q) : ((cols 0 q G).getD i []).getD j 0 = el G i j := by
  rw [cols_at (by rw [hG.1]; exact hi), List.drop_zero]
  unfold el
  simp only [List.getD_eq_getElem?_getD, List.getElem?_take, if_pos hj]
theorem inverses {l : Inv.Mat} {n : Nat} (h0 : 0 < n) (hn : n ≤ 40) (hS : Sh n n l) : ∃ k, laws_FnMatrixInvertsGreat.j0 (k + 1) l false = some true := by
  have hl := hS.1
  have hU := unitM_sh n
  have hW := aug_sh hS hU
  have hR := Inv.red_sh fld (n + n) 0 0 _ hW
  have hsame := same fld (L := n + n) (by omega) hW
  have eU : ∀ K, n + 1 ≤ K → spec_Unit.f K (n : Int) = some (unitM n) := fun K hK => lift (fun k => spec_Unit.mono _ k) (unit_eq (by omega)) hK
  have eB : ∀ K, n + 1 ≤ K → spec_Beside.f K l (unitM n) = some (aug l (unitM n)) := fun K hK => lift (fun k => spec_Beside.mono _ _ k) (beside_eq hS hU (by omega) (by omega) (by omega)) hK
  have hw0 : (rd_L1 (aug l (unitM n)) 0).length = n + n := (hW.2 0 h0).1
  have eR : spec_Reduced.f (aug l (unitM n)) = some ((red MM XX II n (n + n) 0 0 (aug l (unitM n))).1, ((red MM XX II n (n + n) 0 0 (aug l (unitM n))).2 : Int)) := by
    unfold spec_Reduced.f
    rw [hw0, hW.1, if_pos ⟨h0, by omega, by omega, by omega, hW⟩]
  generalize hred : (red MM XX II n (n + n) 0 0 (aug l (unitM n))).1 = R at hR hsame eR
  have eL : ∀ K, n + 1 ≤ K → spec_Block.f K R 0 0 (n : Int) (n : Int) = some (cols 0 n R) := fun K hK => lift (fun k => spec_Block.mono _ _ _ _ _ k) (block_eq (p := 0) (q := n) hR (by omega) (by omega) (by omega) (by omega)) hK
  have e2 : wrap64 (2 * (n : Int)) = ((n + n : Nat) : Int) := by unfold wrap64; omega
  have eT : ∀ K, n + 1 ≤ K → spec_Block.f K R 0 (n : Int) (n : Int) (wrap64 (2 * (n : Int))) = some (cols n (n + n) R) := fun K hK => by
    rw [e2]; exact lift (fun k => spec_Block.mono _ _ _ _ _ k) (block_eq hR (by omega) (by omega) (by omega) (by omega)) hK
  have erow : ∀ {G : Inv.Mat} {m : Nat} (K : Nat), Sh n m G → m ≤ 2147483647 → n + 1 ≤ K → impl_rows.f K G = some G := fun {G m} K hG hm hK => by
    have := rows_eq G (by rw [hG.1]; omega) (fun j hj => by rw [(hG.2 j (by rw [hG.1] at hj; exact hj)).1]; exact hm)
    rw [hG.1] at this
    exact lift (fun k => impl_rows.mono _ k) this hK
  have enil : ∀ K, 1 ≤ K → impl_rows.f K [] = some [] := fun K hK => lift (fun k => impl_rows.mono _ k) (rows_eq [] (by simp) (fun j hj => by simp at hj)) (show 0 + 1 ≤ K from hK)
  obtain ⟨c1, c2⟩ := cols_sh (p := 0) hR (show n ≤ n + n by omega)
  cases hg : gauss MM XX II n (aug l (unitM n)) with
  | none =>
    obtain ⟨q, hq, hz⟩ := hsame.1 hg
    have hne : cols 0 n R ≠ unitM n := fun e => by
      have h1 := cols_el (q := n) hR hq hq
      have h2 := unitM_at hq hq
      rw [if_pos rfl] at h2
      unfold el at h2
      rw [e, h2, hz] at h1
      exact absurd h1 (by decide)
    obtain ⟨k, hk⟩ := differ (by rw [c1, hU.1]) (by rw [c1]; omega) (fun j hj => by rw [c2 j (by rw [c1] at hj; exact hj)]; omega) (fun j hj => by rw [c2 j (by rw [c1] at hj; exact hj), rd_L1_nat, (hU.2 j (by rw [c1] at hj; exact hj)).1]; omega) hne
    have hi : inv n l = none := by unfold inv; rw [hg]
    refine ⟨k + n + 1, ?_⟩
    have f1 : impl_Invert.f (k + n + 1) l = some ([], false) := by
      unfold impl_Invert.f
      rw [hl, if_pos ⟨h0, by omega, hS⟩, erow _ hS (by omega) (by omega), Option.bind_some, if_pos rfl, hi]
      show (impl_rows.f (k + n + 1) []).bind _ = _
      rw [enil _ (by omega)]; rfl
    have f2 : spec_Inverted.f (k + n + 1) l = some ([], false) := by
      unfold spec_Inverted.f
      rw [hl, eU _ (by omega), Option.bind_some, eB _ (by omega), Option.bind_some, eR, Option.bind_some, eL _ (by omega), Option.bind_some, Option.bind_some, lift (fun k => spec_EqualMatrices.mono _ _ k) hk (by omega), Option.bind_some, if_neg (by decide)]
    rw [laws_FnMatrixInvertsGreat.j0, if_neg (by decide), f1, Option.bind_some, f2, Option.bind_some, if_pos (by decide), if_neg (by decide)]
  | some G =>
    obtain ⟨g1, g2, g3⟩ := hsame.2 G hg
    have heq : cols 0 n R = unitM n := by
      refine ext_getD [] (by rw [c1, hU.1]) fun i hi => ?_
      rw [c1] at hi
      refine ext_getD 0 (by have := c2 i hi; rw [rd_L1_nat] at this; rw [this, (hU.2 i hi).1]; omega) fun j hj => ?_
      have := c2 i hi
      rw [rd_L1_nat] at this
      rw [this] at hj
      have h2 := unitM_at hi (show j < n by omega)
      unfold el at h2
      rw [cols_el hR hi (by omega), g1, g3 i hi j (by omega), h2]
    have hright : cols n (n + n) R = right n G := by
      refine ext_getD [] (by rw [(cols_sh hR (Nat.le_refl _)).1]; unfold right; rw [List.length_map, g2.1]) fun i hi => ?_
      rw [(cols_sh hR (Nat.le_refl _)).1] at hi
      rw [cols_at (by rw [hR.1]; exact hi), right_at (by rw [g2.1]; exact hi), g1, List.take_of_length_le (by rw [(g2.2 i hi).1]; exact Nat.le_refl _)]
    have hRS : Sh n n (right n G) := by
      refine ⟨by unfold right; rw [List.length_map, g2.1], fun i hi => ?_⟩
      rw [right_at (by rw [g2.1]; exact hi)]
      have := rw_drop (g2.2 i hi) (show n ≤ n + n by omega)
      rw [Nat.add_sub_cancel] at this
      exact this
    have hi : inv n l = some (right n G) := by unfold inv; rw [hg]
    obtain ⟨k1, hk1⟩ := eq_self (unitM n) (by rw [hU.1]; omega) (fun j hj => by rw [rd_L1_nat, (hU.2 j (by rw [hU.1] at hj; exact hj)).1]; omega)
    obtain ⟨k2, hk2⟩ := eq_self (right n G) (by rw [hRS.1]; omega) (fun j hj => by rw [rd_L1_nat, (hRS.2 j (by rw [hRS.1] at hj; exact hj)).1]; omega)
    refine ⟨k1 + k2 + n + 1, ?_⟩
    have f1 : impl_Invert.f (k1 + k2 + n + 1) l = some (right n G, true) := by
      unfold impl_Invert.f
      rw [hl, if_pos ⟨h0, by omega, hS⟩, erow _ hS (by omega) (by omega), Option.bind_some, if_pos rfl, hi]
      show (impl_rows.f (k1 + k2 + n + 1) (right n G)).bind _ = _
      rw [erow _ hRS (by omega) (by omega)]; rfl
    have f2 : spec_Inverted.f (k1 + k2 + n + 1) l = some (right n G, true) := by
      unfold spec_Inverted.f
      rw [hl, eU _ (by omega), Option.bind_some, eB _ (by omega), Option.bind_some, eR, Option.bind_some, eL _ (by omega), Option.bind_some, Option.bind_some, heq, lift (fun k => spec_EqualMatrices.mono _ _ k) hk1 (by omega), Option.bind_some, if_pos rfl, eT _ (by omega), Option.bind_some, hright]
    rw [laws_FnMatrixInvertsGreat.j0, if_neg (by decide), f1, Option.bind_some, f2, Option.bind_some, if_pos (by rfl), if_pos rfl, lift (fun k => spec_EqualMatrices.mono _ _ k) hk2 (by omega), Option.bind_some]
theorem mod_first {k : Nat} {x : List (List Int)} {L : List (List (List Int))} (h : laws_moderate.f k (x :: L) = some true) : x.length ≤ 40 := by
  unfold laws_moderate.f at h
  cases k with
  | zero => simp [laws_moderate.l0] at h
  | succ k =>
    rw [laws_moderate.l0, if_pos (by simp only [List.length_cons]; omega), if_pos (by omega), if_pos (by simp only [List.length_cons]; omega)] at h
    have e : rd_L3 (x :: L) 0 = x := rfl
    rw [e] at h
    by_cases hx : ((x.length : Nat) : Int) > 40
    · rw [if_pos hx] at h; cases h
    · omega
theorem byt {a : Int} (h : (Lit.int .u8 a).wf = true) : Byte a := by
  obtain ⟨n, rfl, hn⟩ := wf_u8 h
  exact ⟨Int.natCast_nonneg _, by omega⟩
theorem FnMatrixInvertsGreat (l0 : List (List (Int))) (w0 : l0.length ≤ maxLen ∧ ∀ l0' ∈ l0, l0'.length ≤ maxLen ∧ ∀ l0'' ∈ l0', (Lit.int .u8 l0'').wf = true) : ∃ k, laws_FnMatrixInvertsGreat.f k l0 = some true := by
  obtain ⟨z, k1, h1, hz⟩ := fits l0
  cases z with
  | false =>
    exact ⟨k1, by unfold laws_FnMatrixInvertsGreat.f; rw [h1, Option.bind_some, if_neg (by decide)]⟩
  | true =>
    obtain ⟨hl, hb⟩ := hz rfl
    obtain ⟨k2, m, h2⟩ := mod_total [l0] (by simp) (fun j hj => by
      obtain rfl : j = 0 := by simpa using hj
      exact hl) 1 0 rfl
    have h2 : laws_moderate.f k2 [l0] = some m := h2
    have h3 := rect_eq l0 hl
    have hj : ∀ K, laws_FnMatrixInvertsGreat.j0 (K + 1) l0 true = some true := fun K => by rw [laws_FnMatrixInvertsGreat.j0, if_pos rfl]
    have F1 : ∀ K, k1 ≤ K → laws_zzFits2.f K l0 = some true := fun K hK => lift (fun k => laws_zzFits2.mono _ k) h1 hK
    have F2 : ∀ K, k2 ≤ K → laws_moderate.f K [l0] = some m := fun K hK => lift (fun k => laws_moderate.mono _ k) h2 hK
    have F3 : ∀ K, l0.length + 1 ≤ K → spec_Rectangular.f K l0 = some (decide (Rect l0)) := fun K hK => lift (fun k => spec_Rectangular.mono _ k) h3 hK
    cases m with
    | false =>
      refine ⟨k1 + k2 + 1, ?_⟩
      unfold laws_FnMatrixInvertsGreat.f
      rw [F1 _ (by omega), Option.bind_some, if_pos rfl, F2 _ (by omega), Option.bind_some, if_neg (by decide), hj]
    | true =>
      by_cases hr : Rect l0
      · by_cases hc : (rd_L1 l0 0).length = l0.length
        · have hS : Sh l0.length l0.length l0 := by
            refine ⟨rfl, fun i hi => ?_⟩
            have hm : l0.getD i [] ∈ l0 := Inv.getD_mem l0 i [] hi
            refine ⟨by rw [hr.2.2 _ hm, hc], fun j hj2 => ?_⟩
            have hlen : (l0.getD i []).length = l0.length := by rw [hr.2.2 _ hm, hc]
            exact byt ((w0.2 _ hm).2 _ (Inv.getD_mem _ j 0 (by rw [hlen]; exact hj2)))
          obtain ⟨k4, h4⟩ := inverses hr.1 (mod_first h2) hS
          have F4 : ∀ K, k4 + 1 ≤ K → laws_FnMatrixInvertsGreat.j0 K l0 false = some true := fun K hK => lift (fun k => laws_FnMatrixInvertsGreat.mono_l k _ _) h4 hK
          refine ⟨k1 + k2 + l0.length + k4 + 1, ?_⟩
          unfold laws_FnMatrixInvertsGreat.f
          rw [F1 _ (by omega), Option.bind_some, if_pos rfl, F2 _ (by omega), Option.bind_some, if_pos rfl, F3 _ (by omega), Option.bind_some, decide_eq_true hr, if_pos rfl, columns hr.1, Option.bind_some, hc, bne_self_eq_false]
          exact F4 _ (by omega)
        · refine ⟨k1 + k2 + l0.length + 1, ?_⟩
          unfold laws_FnMatrixInvertsGreat.f
          rw [F1 _ (by omega), Option.bind_some, if_pos rfl, F2 _ (by omega), Option.bind_some, if_pos rfl, F3 _ (by omega), Option.bind_some, decide_eq_true hr, if_pos rfl, columns hr.1, Option.bind_some, bne_iff_ne.mpr (by omega), hj]
      · refine ⟨k1 + k2 + l0.length + 1, ?_⟩
        unfold laws_FnMatrixInvertsGreat.f
        rw [F1 _ (by omega), Option.bind_some, if_pos rfl, F2 _ (by omega), Option.bind_some, if_pos rfl, F3 _ (by omega), Option.bind_some, decide_eq_false hr, if_neg (by decide), hj]
end Go.Proofs.YtladpdeneiaaeaaDoor.Pure
