-- Written by a program of this session (wip/tools)
import Derived.Test.YtielnphmcaecdaaDoorQRMNds
import Derived.Test.YtielnphmcaecdaaDoorQRMExtVisits
import Derived.Test.YtielnphmcaecdaaDoorQRMMergeDefs
import Derived.Test.YtielnphmcaecdaaDoorQRMExtRangeG
import Derived.Test.YtielnphmcaecdaaDoorQRMTreeMem
import Derived.Test.YtielnphmcaecdaaDoorQRMPAllx6
import Derived.Test.YtielnphmcaecdaaDoorQRMExtRangeA3
import Derived.Test.YtielnphmcaecdaaDoorQRMExtTz
import Derived.Deep.RegionHeldLaw
namespace Go.Proofs.YtielnphmcaecdaaDoor.Mth
set_option linter.unusedVariables false
theorem mNds_last : ∀ (h l b c : Nat), c % 2 = 0 → b ≤ c * 2 ^ h → Nds l b ((c + 1) * 2 ^ h) = Nds l b (c * 2 ^ h) ++ [(l + h, c)]
  | 0, l, b, c, hc, hb => by
    rw [Nat.pow_zero, Nat.mul_one] at hb
    rw [Nat.pow_zero, Nat.mul_one, Nat.mul_one, Nds_some (show b < c + 1 by omega), if_pos (show (c + 1) % 2 = 1 by omega), Nat.add_sub_cancel, show (c + 1) / 2 = c / 2 by omega]
    by_cases h : b < c
    · rw [Nds_some h, if_neg (show ¬ c % 2 = 1 by omega), List.append_nil]; rfl
    · rw [Nds_empty (show c ≤ b by omega), Nds_empty (show c / 2 ≤ (b + 1) / 2 by omega), if_neg (show ¬ b % 2 = 1 by omega)]; rfl
  | h + 1, l, b, c, hc, hb => by
    have e1 : (c + 1) * 2 ^ (h + 1) = 2 * ((c + 1) * 2 ^ h) := by rw [pow_up, Nat.mul_left_comm]
    have e2 : c * 2 ^ (h + 1) = 2 * (c * 2 ^ h) := by rw [pow_up, Nat.mul_left_comm]
    have e3 : (c + 1) * 2 ^ h = c * 2 ^ h + 2 ^ h := Nat.succ_mul _ _
    have hp := Nat.two_pow_pos h
    rw [e2] at hb
    have ih := mNds_last h (l + 1) ((b + 1) / 2) c hc (by omega)
    rw [e1, e2]
    generalize (c + 1) * 2 ^ h = Y at *
    generalize c * 2 ^ h = X at *
    rw [Nds_some (show b < 2 * Y by omega), if_neg (show ¬ 2 * Y % 2 = 1 by omega), List.append_nil, Nat.mul_div_cancel_left _ (by decide), ih]
    by_cases h2 : b < 2 * X
    · rw [Nds_some h2, if_neg (show ¬ 2 * X % 2 = 1 by omega), List.append_nil, Nat.mul_div_cancel_left _ (by decide), List.append_assoc, show l + 1 + h = l + (h + 1) by omega]
    · rw [Nds_empty (show 2 * X ≤ b by omega), Nds_empty (show X ≤ (b + 1) / 2 by omega), if_neg (show ¬ b % 2 = 1 by omega), show l + 1 + h = l + (h + 1) by omega]; rfl
theorem mlev_odd : ∀ (h c e : Nat), c % 2 = 1 → (c + 1) * 2 ^ h ≤ e → lev (c * 2 ^ h) e = h
  | 0, c, e, hc, he => by rw [Nat.pow_zero, Nat.mul_one, lev_no (.inl hc)]
  | h + 1, c, e, hc, he => by
    have e1 : (c + 1) * 2 ^ (h + 1) = 2 * ((c + 1) * 2 ^ h) := by rw [pow_up, Nat.mul_left_comm]
    have e2 : c * 2 ^ (h + 1) = 2 * (c * 2 ^ h) := by rw [pow_up, Nat.mul_left_comm]
    have e3 : (c + 1) * 2 ^ h = c * 2 ^ h + 2 ^ h := Nat.succ_mul _ _
    have hp := Nat.two_pow_pos h
    rw [e1] at he
    have ih := mlev_odd h c (e / 2) hc (by omega)
    rw [e2]
    generalize (c + 1) * 2 ^ h = Y at *
    generalize c * 2 ^ h = X at *
    rw [lev_up (by omega) (by omega), Nat.mul_div_cancel_left _ (by decide), ih]
theorem mNds_first {h c e : Nat} (hc : c % 2 = 1) (he : (c + 1) * 2 ^ h ≤ e) : Nds 0 (c * 2 ^ h) e = (h, c) :: Nds 0 ((c + 1) * 2 ^ h) e := by
  have hp := Nat.two_pow_pos h
  have e3 : (c + 1) * 2 ^ h = c * 2 ^ h + 2 ^ h := Nat.succ_mul _ _
  rw [Nds_step 0 _ _ (by omega), mlev_odd h c e hc he, Nat.zero_add, Nat.mul_div_cancel _ hp, e3]
theorem mlev_parts {b e : Nat} (h : b < e) : ∃ c, b = c * 2 ^ lev b e ∧ b / 2 ^ lev b e = c ∧ (c + 1) * 2 ^ lev b e = b + 2 ^ lev b e ∧ b + 2 ^ lev b e ≤ e ∧ (c % 2 = 0 → e < (c + 2) * 2 ^ lev b e) := by
  obtain ⟨h1, h2, h3⟩ := lev_spec b e h
  have hp := Nat.two_pow_pos (lev b e)
  generalize lev b e = κ at *
  have hd := Nat.div_add_mod b (2 ^ κ)
  rw [h1, Nat.add_zero, Nat.mul_comm] at hd
  refine ⟨b / 2 ^ κ, hd.symm, rfl, by rw [Nat.succ_mul, hd], h2, fun hc => ?_⟩
  obtain ⟨j, hj⟩ : ∃ j, b / 2 ^ κ = 2 * j := ⟨b / 2 ^ κ / 2, by omega⟩
  rw [hj] at hd ⊢
  have e1 : 2 * j * 2 ^ κ = 2 ^ (κ + 1) * j := by rw [Nat.pow_succ, Nat.mul_assoc, Nat.mul_comm (2 ^ κ) 2, Nat.mul_assoc, Nat.mul_comm j]
  have h4 := h3 (by rw [← hd, e1]; exact Nat.mul_mod_right _ _)
  rw [Nat.add_mul, hd, show 2 * 2 ^ κ = 2 ^ (κ + 1) from (pow_up κ).symm]
  exact h4
theorem mNds_range : ∀ (d b e : Nat), e - b ≤ d → ∀ p ∈ Nds 0 b e, b ≤ p.2 * 2 ^ p.1 ∧ (p.2 + 1) * 2 ^ p.1 ≤ e := by
  intro d
  induction d with
  | zero => intro b e h p hp; rw [Nds_empty (by omega)] at hp; cases hp
  | succ d ih =>
    intro b e h p hp
    by_cases hb : b < e
    · obtain ⟨c, h1, h2, h3, h4, _⟩ := mlev_parts hb
      have hpp := Nat.two_pow_pos (lev b e)
      rw [Nds_step 0 b e hb, Nat.zero_add, h2] at hp
      rcases List.mem_cons.mp hp with rfl | hp
      · exact ⟨Nat.le_of_eq h1, by rw [h3]; exact h4⟩
      · have := ih _ _ (by omega) p hp
        exact ⟨by omega, this.2⟩
    · rw [Nds_empty (by omega)] at hp; cases hp
theorem mNds_end : ∀ (d b e : Nat), e - b ≤ d → ∀ L p, Nds 0 b e = L ++ [p] → (p.2 + 1) * 2 ^ p.1 = e := by
  intro d
  induction d with
  | zero => intro b e h L p hp; rw [Nds_empty (by omega)] at hp; simp at hp
  | succ d ih =>
    intro b e h L p hp
    by_cases hb : b < e
    · obtain ⟨c, h1, h2, h3, h4, _⟩ := mlev_parts hb
      have hpp := Nat.two_pow_pos (lev b e)
      rw [Nds_step 0 b e hb, Nat.zero_add, h2] at hp
      cases L with
      | nil =>
        simp only [List.nil_append, List.cons.injEq] at hp
        obtain ⟨rfl, h5⟩ := hp
        show (c + 1) * 2 ^ lev b e = e
        rw [h3]
        rcases Nat.lt_or_ge (b + 2 ^ lev b e) e with h6 | h6
        · have := Nds_nonempty (l := 0) h6
          rw [h5] at this; simp at this
        · omega
      | cons q L =>
        simp only [List.cons_append, List.cons.injEq] at hp
        exact ih _ _ (by omega) L p hp.2
    · rw [Nds_empty (by omega)] at hp; simp at hp
def chainN : Nat × Nat → List (Nat × Nat) → Prop
  | _, [] => True
  | a, v :: l => ¬ (a.1 = v.1 ∧ a.2 % 2 = 0) ∧ chainN v l
theorem chain_after : ∀ (d κ c e : Nat), e - (c + 1) * 2 ^ κ ≤ d → (c % 2 = 0 → e < (c + 2) * 2 ^ κ) → chainN (κ, c) (Nds 0 ((c + 1) * 2 ^ κ) e) := by
  intro d
  induction d with
  | zero => intro κ c e h _; rw [Nds_empty (by omega)]; trivial
  | succ d ih =>
    intro κ c e h hs
    by_cases hb : (c + 1) * 2 ^ κ < e
    · obtain ⟨c', h1, h2, h3, h4, h5⟩ := mlev_parts hb
      have hpp := Nat.two_pow_pos (lev ((c + 1) * 2 ^ κ) e)
      rw [Nds_step 0 _ e hb, Nat.zero_add, h2, ← h3]
      refine ⟨fun ⟨g1, g2⟩ => ?_, ih _ _ _ (by omega) h5⟩
      have g1 : κ = lev ((c + 1) * 2 ^ κ) e := g1
      have := hs g2
      rw [← g1] at h4
      rw [show c + 2 = c + 1 + 1 from rfl, Nat.succ_mul] at this
      omega
    · rw [Nds_empty (by omega)]; trivial
theorem chain_Nds {b e : Nat} (h : b < e) : ∃ p l, Nds 0 b e = p :: l ∧ chainN p l ∧ p = (lev b e, b / 2 ^ lev b e) := by
  obtain ⟨c, h1, h2, h3, h4, h5⟩ := mlev_parts h
  refine ⟨_, _, Nds_step 0 b e h, ?_, by rw [Nat.zero_add]⟩
  rw [Nat.zero_add, h2, ← h3]
  exact chain_after _ _ _ _ (Nat.le_refl _) h5
theorem left_no {h I b : Nat} (hI : I % 2 = 0 ∨ (I - 1) * 2 ^ h < b) {L : List (Nat × Nat)} {p : Nat × Nat} (hL : Nds 0 b (I * 2 ^ h) = L ++ [p]) : ¬ (p.1 = h ∧ p.2 % 2 = 0) := by
  rintro ⟨g1, g2⟩
  have h1 := mNds_end _ _ _ (Nat.le_refl _) L p hL
  have h2 := (mNds_range _ _ _ (Nat.le_refl _) p (by rw [hL]; simp)).1
  rw [g1] at h1 h2
  have h3 := Nat.eq_of_mul_eq_mul_right (Nat.two_pow_pos h) h1
  rcases hI with hI | hI
  · omega
  · rw [show I - 1 = p.2 by omega] at hI; omega
end Go.Proofs.YtielnphmcaecdaaDoor.Mth
set_option linter.unusedVariables false
set_option linter.unusedSimpArgs false
namespace Go.Proofs.YtielnphmcaecdaaDoor.Mth
open Go.RowKit Go.Proofs.YtielnphmcaecdaaDoor.Num Go.Proofs.YtielnphmcaecdaaDoor.PAll Go.Proofs.YtielnphmcaecdaaDoorW.PrintWords Go.Proofs.YtielnphmcaecdaaDoorW.PrintLast Go.Proofs.YtielnphmcaecdaaDoorW.PrintMore
def vis (p : Nat × Nat) (x : List Int) : S51 := ⟨⟨(p.1 : Int), (p.2 : Int)⟩, x⟩
theorem pushUp_no {F : List Int → List Int → Option (List Int)} {st : List S51} {v : S51} (h : ∀ a s, st = a :: s → ¬ (a.1.1 = v.1.1 ∧ a.1.2.tmod 2 = 0)) : pushUp F st v = some (st, v, []) := by
  cases st with
  | nil => rfl
  | cons a s => rw [pushUp, if_neg (h a s rfl)]
theorem vis_pair {p q : Nat × Nat} {x y : List Int} : ((vis p x).1.1 = (vis q y).1.1 ∧ (vis p x).1.2.tmod 2 = 0) ↔ (p.1 = q.1 ∧ p.2 % 2 = 0) := by
  unfold vis
  dsimp only
  rw [Int.tmod_eq_emod_of_nonneg (by omega)]
  omega
theorem upOf_vis {h q : Nat} {x y : List Int} (hh : h < 64) (hq : q < 18446744073709551616) : upOf (vis (h, 2 * q) x) y = vis (h + 1, q) y := by
  unfold upOf vis
  dsimp only
  rw [show ((h : Int) + 1) = ((h + 1 : Nat) : Int) by omega, u64in (by omega), Int.tdiv_eq_ediv_of_nonneg (by omega), show ((2 * q : Nat) : Int) / 2 = (q : Int) by omega, u64in hq]
theorem pushUp_yes {F : List Int → List Int → Option (List Int)} {h q : Nat} {x y s : List Int} {st : List S51} (hh : h < 64) (hq : q < 18446744073709551616) (hF : F x y = some s) : pushUp F (vis (h, 2 * q) x :: st) (vis (h, 2 * q + 1) y) = (pushUp F st (vis (h + 1, q) s)).bind fun r => some (r.1, r.2.1, vis (h + 1, q) s :: r.2.2) := by
  have hc : (vis (h, 2 * q) x).1.1 = (vis (h, 2 * q + 1) y).1.1 ∧ (vis (h, 2 * q) x).1.2.tmod 2 = 0 := vis_pair.mpr ⟨rfl, by show 2 * q % 2 = 0; omega⟩
  rw [pushUp, if_pos hc, show (vis (h, 2 * q) x).2 = x from rfl, show (vis (h, 2 * q + 1) y).2 = y from rfl, hF, Option.bind_some, upOf_vis hh hq]
def goOn (F : List Int → List Int → Option (List Int)) (st : List S51) (v : S51) (l : List S51) : Option (List S51 × List S51) := (pushUp F st v).bind fun r => (mergedAll F (r.2.1 :: r.1) l).bind fun q => some (q.1, r.2.2 ++ q.2)
theorem mergedAll_cons (F : List Int → List Int → Option (List Int)) (st : List S51) (v : S51) (l : List S51) : mergedAll F st (v :: l) = goOn F st v l := rfl
theorem goOn_odd {F : List Int → List Int → Option (List Int)} {h q : Nat} {x y s : List Int} {st l : List S51} (hh : h < 64) (hq : q < 18446744073709551616) (hF : F x y = some s) : goOn F (vis (h, 2 * q) x :: st) (vis (h, 2 * q + 1) y) l = (goOn F st (vis (h + 1, q) s) l).bind fun r => some (r.1, vis (h + 1, q) s :: r.2) := by
  unfold goOn
  rw [pushUp_yes hh hq hF]
  cases pushUp F st (vis (h + 1, q) s) with
  | none => rfl
  | some r =>
    simp only [Option.bind_some]
    cases mergedAll F (r.2.1 :: r.1) l with
    | none => rfl
    | some r => rfl
theorem goOn_even {F : List Int → List Int → Option (List Int)} {h q : Nat} {x y s : List Int} {st l : List S51} (hh : h < 64) (hq : q < 18446744073709551616) (hF : F x y = some s) (hn : pushUp F st (vis (h, 2 * q) x) = some (st, vis (h, 2 * q) x, [])) : goOn F st (vis (h, 2 * q) x) (vis (h, 2 * q + 1) y :: l) = (goOn F st (vis (h + 1, q) s) l).bind fun r => some (r.1, vis (h + 1, q) s :: r.2) := by
  rw [← goOn_odd (x := x) (y := y) hh hq hF, goOn, hn, Option.bind_some]
  dsimp only
  rw [mergedAll_cons]
  cases goOn F (vis (h, 2 * q) x :: st) (vis (h, 2 * q + 1) y) l with
  | none => rfl
  | some r => rfl
theorem merged_chain {F : List Int → List Int → Option (List Int)} : ∀ (l : List (Nat × Nat)) (xs : List (List Int)) (a : Nat × Nat) (x : List Int) (st : List S51), chainN a l → mergedAll F (vis a x :: st) (List.zipWith vis l xs) = some ((List.zipWith vis l xs).reverse ++ vis a x :: st, [])
  | [], xs, a, x, st, _ => by cases xs <;> rfl
  | v :: l, [], a, x, st, _ => rfl
  | v :: l, y :: xs, a, x, st, h => by
    obtain ⟨h1, h2⟩ := h
    rw [List.zipWith_cons_cons, mergedAll_cons, goOn, pushUp_no (fun a' s' e => by
      obtain ⟨rfl, rfl⟩ := List.cons.inj e
      exact fun h => h1 (vis_pair.mp h)), Option.bind_some]
    dsimp only
    rw [merged_chain l xs v y _ h2, Option.bind_some, List.nil_append, List.reverse_cons, List.append_assoc]; rfl
theorem goOn_end {F : List Int → List Int → Option (List Int)} {l : List (Nat × Nat)} {xs : List (List Int)} {a : Nat × Nat} {x : List Int} {st : List S51} (hn : pushUp F st (vis a x) = some (st, vis a x, [])) (h : chainN a l) : goOn F st (vis a x) (List.zipWith vis l xs) = some ((List.zipWith vis l xs).reverse ++ vis a x :: st, []) := by
  rw [goOn, hn, Option.bind_some]
  dsimp only
  rw [merged_chain l xs a x _ h, Option.bind_some]; rfl
theorem zip_last {L : List (Nat × Nat)} {p : Nat × Nat} {xs : List (List Int)} {n : Nat} (hL : L.length = n) (hx : n < xs.length) : (List.zipWith vis (L ++ [p]) (xs.take (n + 1))).reverse = vis p (xs.getD n []) :: (List.zipWith vis L (xs.take n)).reverse := by
  have e : xs.take (n + 1) = xs.take n ++ [xs.getD n []] := by
    rw [List.take_add_one, List.getElem?_eq_getElem hx, List.getD_eq_getElem?_getD, List.getElem?_eq_getElem hx]; rfl
  rw [e, List.zipWith_append (by rw [List.length_take]; omega), List.reverse_append]; rfl
theorem left_pushes {F : List Int → List Int → Option (List Int)} {h I b : Nat} {ys : List (List Int)} {x : List Int} (hI : I % 2 = 0 ∨ (I - 1) * 2 ^ h < b) (hl : (Nds 0 b (I * 2 ^ h)).length = ys.length) : pushUp F (List.zipWith vis (Nds 0 b (I * 2 ^ h)) ys).reverse (vis (h, I) x) = some ((List.zipWith vis (Nds 0 b (I * 2 ^ h)) ys).reverse, vis (h, I) x, []) := by
  refine pushUp_no (fun a s e => ?_)
  generalize hL : Nds 0 b (I * 2 ^ h) = L at e hl
  rcases List.eq_nil_or_concat L with h0 | ⟨L', p, h0⟩
  · subst h0; cases ys <;> cases e
  rw [List.concat_eq_append] at h0
  subst h0
  have hy : ys.take ys.length = ys := List.take_length
  rw [List.length_append, List.length_singleton] at hl
  rw [← hl] at hy
  rw [← hy, zip_last rfl (by omega)] at e
  obtain ⟨rfl, _⟩ := List.cons.inj e
  exact fun hc => left_no hI hL (vis_pair.mp hc)
section path
variable (F : List Int → List Int → Option (List Int)) (b m e low D : Nat) (xs ys : List (List Int)) (gs : Nat → List Int)
def stAt (t : Nat) : List S51 := (List.zipWith vis (Nds 0 b (m / 2 ^ (low + t) * 2 ^ (low + t))) (xs.take (xs.length - onesB m low t))).reverse
def rsAt (t : Nat) : List S51 := List.zipWith vis (Nds 0 ((m / 2 ^ (low + t) + 1) * 2 ^ (low + t)) e) (ys.drop (t - onesB m low t))
def inR (t : Nat) : Prop := b ≤ m / 2 ^ (low + t) * 2 ^ (low + t) ∧ (m / 2 ^ (low + t) + 1) * 2 ^ (low + t) ≤ e
variable {F b m e low D xs ys gs}
theorem half_up (m j : Nat) : m / 2 ^ (j + 1) = m / 2 ^ j / 2 := by rw [Nat.pow_succ, Nat.div_div_eq_div_mul]
theorem len_at (h0 : (Nds 0 b m).length = xs.length) (h1 : (Nds 0 ((m / 2 ^ low + 1) * 2 ^ low) e).length = ys.length) (hm : m / 2 ^ low * 2 ^ low = m) : ∀ t, t ≤ D → (∀ j, j < D → inR b m e low (j + 1)) → (Nds 0 b (m / 2 ^ (low + t) * 2 ^ (low + t))).length + onesB m low t = xs.length ∧ (Nds 0 ((m / 2 ^ (low + t) + 1) * 2 ^ (low + t)) e).length + (t - onesB m low t) = ys.length
  | 0, _, _ => by
    rw [Nat.add_zero, hm]
    exact ⟨by rw [onesB]; omega, by rw [onesB]; omega⟩
  | t + 1, ht, hin => by
    obtain ⟨i1, i2⟩ := len_at h0 h1 hm t (by omega) hin
    obtain ⟨r1, r2⟩ := hin t (by omega)
    have hle := onesB_le m low t
    have e1 : low + (t + 1) = low + t + 1 := rfl
    rw [e1, half_up] at r1 r2 ⊢
    rw [onesB]
    generalize low + t = h at *
    have hp := pow_up h
    generalize m / 2 ^ h = I at *
    rcases Nat.mod_two_eq_zero_or_one I with hb | hb
    · obtain ⟨q, rfl⟩ : ∃ q, I = 2 * q := ⟨I / 2, by omega⟩
      rw [hb]
      rw [show 2 * q / 2 = q by omega, hp] at r1 r2 ⊢
      have ee : q * (2 * 2 ^ h) = 2 * q * 2 ^ h := by rw [Nat.mul_left_comm, Nat.mul_assoc]
      have e2 : (q + 1) * (2 * 2 ^ h) = (2 * q + 1 + 1) * 2 ^ h := by rw [Nat.mul_left_comm, ← Nat.mul_assoc]; rfl
      rw [ee] at r1 ⊢
      rw [e2] at r2 ⊢
      rw [mNds_first (show (2 * q + 1) % 2 = 1 by omega) r2, List.length_cons] at i2
      exact ⟨by omega, by omega⟩
    · obtain ⟨q, rfl⟩ : ∃ q, I = 2 * q + 1 := ⟨I / 2, by omega⟩
      rw [hb]
      rw [show (2 * q + 1) / 2 = q by omega, hp] at r1 r2 ⊢
      have ee : q * (2 * 2 ^ h) = 2 * q * 2 ^ h := by rw [Nat.mul_left_comm, Nat.mul_assoc]
      have e2 : (q + 1) * (2 * 2 ^ h) = (2 * q + 1 + 1) * 2 ^ h := by rw [Nat.mul_left_comm, ← Nat.mul_assoc]; rfl
      rw [ee] at r1 ⊢
      rw [e2] at r2 ⊢
      rw [mNds_last h 0 b (2 * q) (by omega) r1, List.length_append, List.length_singleton] at i1
      exact ⟨by omega, by omega⟩
theorem go_path (hm64 : m < 18446744073709551616) (hlow : low + D < 64) (h0 : (Nds 0 b m).length = xs.length) (h1 : (Nds 0 ((m / 2 ^ low + 1) * 2 ^ low) e).length = ys.length) (hm : m / 2 ^ low * 2 ^ low = m) (hin : ∀ j, j < D → inR b m e low (j + 1)) (hend : ¬ inR b m e low (D + 1)) (hbm : b ≤ m) (hme : (m / 2 ^ low + 1) * 2 ^ low ≤ e)
    (hF : ∀ t, t < D → (m / 2 ^ (low + t) % 2 = 1 → F (xs.getD (xs.length - 1 - onesB m low t) []) (gs t) = some (gs (t + 1))) ∧ (m / 2 ^ (low + t) % 2 = 0 → F (gs t) (ys.getD (t - onesB m low t) []) = some (gs (t + 1)))) :
    ∀ d t, t + d = D → goOn F (stAt b m low xs t) (vis (low + t, m / 2 ^ (low + t)) (gs t)) (rsAt m e low ys t) = some ((rsAt m e low ys D).reverse ++ vis (low + D, m / 2 ^ (low + D)) (gs D) :: stAt b m low xs D, (List.range d).map fun i => vis (low + (t + i + 1), m / 2 ^ (low + (t + i + 1))) (gs (t + i + 1)))
  | 0, t, hd => by
    obtain rfl : t = D := by omega
    obtain ⟨l1, l2⟩ := len_at h0 h1 hm t (Nat.le_refl _) hin
    have hle := onesB_le m low t
    have hb1 : b ≤ m / 2 ^ (low + t) * 2 ^ (low + t) ∧ (m / 2 ^ (low + t) + 1) * 2 ^ (low + t) ≤ e := by
      cases t with
      | zero => rw [Nat.add_zero, hm]; exact ⟨hbm, hme⟩
      | succ t => exact hin t (by omega)
    have hx : (xs.take (xs.length - onesB m low t)).length = (Nds 0 b (m / 2 ^ (low + t) * 2 ^ (low + t))).length := by rw [List.length_take]; omega
    unfold inR at hend
    rw [show low + (t + 1) = low + t + 1 from rfl, half_up] at hend
    unfold stAt rsAt
    rw [List.range_zero, List.map_nil]
    generalize xs.take (xs.length - onesB m low t) = xt at *
    generalize low + t = h at *
    have hp := pow_up h
    generalize m / 2 ^ h = I at *
    refine goOn_end (left_pushes ?_ hx.symm) (chain_after _ _ _ _ (Nat.le_refl _) (fun hI => ?_))
    · rcases Nat.mod_two_eq_zero_or_one I with hI | hI
      · exact .inl hI
      · obtain ⟨q, rfl⟩ : ∃ q, I = 2 * q + 1 := ⟨I / 2, by omega⟩
        refine .inr (Nat.lt_of_not_le fun hb => hend ?_)
        rw [show (2 * q + 1) / 2 = q by omega, hp]
        have ee : q * (2 * 2 ^ h) = 2 * q * 2 ^ h := by rw [Nat.mul_left_comm, Nat.mul_assoc]
        have e2 : (q + 1) * (2 * 2 ^ h) = (2 * q + 1 + 1) * 2 ^ h := by rw [Nat.mul_left_comm, ← Nat.mul_assoc]; rfl
        rw [ee, e2]
        exact ⟨hb, hb1.2⟩
    · obtain ⟨q, rfl⟩ : ∃ q, I = 2 * q := ⟨I / 2, by omega⟩
      refine Nat.lt_of_not_le fun hb => hend ?_
      rw [show 2 * q / 2 = q by omega, hp]
      have ee : q * (2 * 2 ^ h) = 2 * q * 2 ^ h := by rw [Nat.mul_left_comm, Nat.mul_assoc]
      have e2 : (q + 1) * (2 * 2 ^ h) = (2 * q + 2) * 2 ^ h := by rw [Nat.mul_left_comm, ← Nat.mul_assoc]; rfl
      rw [ee, e2]
      exact ⟨hb1.1, hb⟩
  | d + 1, t, hd => by
    obtain ⟨l1, l2⟩ := len_at h0 h1 hm t (by omega) hin
    have ih := go_path hm64 hlow h0 h1 hm hin hend hbm hme hF d (t + 1) (by omega)
    obtain ⟨f1, f2⟩ := hF t (by omega)
    obtain ⟨r1, r2⟩ := hin t (by omega)
    have hle := onesB_le m low t
    have hst : (List.range (d + 1)).map (fun i => vis (low + (t + i + 1), m / 2 ^ (low + (t + i + 1))) (gs (t + i + 1))) = vis (low + (t + 1), m / 2 ^ (low + (t + 1))) (gs (t + 1)) :: (List.range d).map (fun i => vis (low + (t + 1 + i + 1), m / 2 ^ (low + (t + 1 + i + 1))) (gs (t + 1 + i + 1))) := by
      rw [List.range_succ_eq_map, List.map_cons, List.map_map]
      congr 1
      refine List.map_congr_left (fun i _ => ?_)
      show vis (low + (t + (i + 1) + 1), m / 2 ^ (low + (t + (i + 1) + 1))) (gs (t + (i + 1) + 1)) = _
      rw [show t + (i + 1) + 1 = t + 1 + i + 1 by omega]
    have hfin : ∀ z, goOn F (stAt b m low xs t) (vis (low + t, m / 2 ^ (low + t)) (gs t)) (rsAt m e low ys t) = (goOn F (stAt b m low xs (t + 1)) (vis (low + (t + 1), m / 2 ^ (low + (t + 1))) (gs (t + 1))) (rsAt m e low ys (t + 1))).bind (fun r => some (r.1, vis (low + (t + 1), m / 2 ^ (low + (t + 1))) (gs (t + 1)) :: r.2)) → z = m → goOn F (stAt b m low xs t) (vis (low + t, m / 2 ^ (low + t)) (gs t)) (rsAt m e low ys t) = some ((rsAt m e low ys D).reverse ++ vis (low + D, m / 2 ^ (low + D)) (gs D) :: stAt b m low xs D, (List.range (d + 1)).map fun i => vis (low + (t + i + 1), m / 2 ^ (low + (t + i + 1))) (gs (t + i + 1))) := fun z h _ => by
      rw [h, ih, Option.bind_some, hst]
    refine hfin m ?_ rfl
    clear hfin hst ih hend
    unfold stAt rsAt
    rw [show low + (t + 1) = low + t + 1 from rfl, half_up] at r1 r2 ⊢
    rw [onesB]
    have hh : low + t < 64 := by omega
    have hI64 : m / 2 ^ (low + t) < 18446744073709551616 := Nat.lt_of_le_of_lt (Nat.div_le_self _ _) hm64
    clear hF
    generalize low + t = h at *
    have hp := pow_up h
    generalize m / 2 ^ h = I at *
    rcases Nat.mod_two_eq_zero_or_one I with hb | hb
    · have f2 := f2 hb
      obtain ⟨q, rfl⟩ : ∃ q, I = 2 * q := ⟨I / 2, by omega⟩
      rw [hb]
      rw [show 2 * q / 2 = q by omega, hp] at r1 r2 ⊢
      have ee : q * (2 * 2 ^ h) = 2 * q * 2 ^ h := by rw [Nat.mul_left_comm, Nat.mul_assoc]
      have e2 : (q + 1) * (2 * 2 ^ h) = (2 * q + 1 + 1) * 2 ^ h := by rw [Nat.mul_left_comm, ← Nat.mul_assoc]; rfl
      rw [ee] at r1 ⊢
      rw [e2] at r2 ⊢
      have hN := mNds_first (show (2 * q + 1) % 2 = 1 by omega) r2
      rw [hN, List.length_cons] at l2
      rw [hN]
      have hd : ys.drop (t - onesB m low t) = ys.getD (t - onesB m low t) [] :: ys.drop (t - onesB m low t + 1) := by
        rw [List.drop_eq_getElem_cons (by omega), List.getD_eq_getElem?_getD, List.getElem?_eq_getElem (by omega)]; rfl
      rw [hd, List.zipWith_cons_cons, show onesB m low t + 0 = onesB m low t from rfl, show t + 1 - onesB m low t = t - onesB m low t + 1 by omega]
      exact goOn_even hh (by omega) (f2 hb) (left_pushes (.inl (by omega)) (by rw [List.length_take]; omega))
    · have f1 := f1 hb
      obtain ⟨q, rfl⟩ : ∃ q, I = 2 * q + 1 := ⟨I / 2, by omega⟩
      rw [hb]
      rw [show (2 * q + 1) / 2 = q by omega, hp] at r1 r2 ⊢
      have ee : q * (2 * 2 ^ h) = 2 * q * 2 ^ h := by rw [Nat.mul_left_comm, Nat.mul_assoc]
      have e2 : (q + 1) * (2 * 2 ^ h) = (2 * q + 1 + 1) * 2 ^ h := by rw [Nat.mul_left_comm, ← Nat.mul_assoc]; rfl
      rw [ee] at r1 ⊢
      rw [e2]
      have hN := mNds_last h 0 b (2 * q) (by omega) r1
      rw [hN, List.length_append, List.length_singleton] at l1
      rw [hN, Nat.zero_add]
      obtain ⟨n, hn⟩ : ∃ n, xs.length - onesB m low t = n + 1 := ⟨xs.length - onesB m low t - 1, by omega⟩
      rw [show xs.length - 1 - onesB m low t = n by omega] at f1
      rw [hn, show xs.length - (onesB m low t + 1) = n by omega, show t + 1 - (onesB m low t + 1) = t - onesB m low t by omega, zip_last (by omega) (by omega)]
      exact goOn_odd hh (by omega) (f1 hb)
end path
end Go.Proofs.YtielnphmcaecdaaDoor.Mth
namespace Go.Proofs.YtielnphmcaecdaaDoor.Mth
open Go.Proofs.YtielnphmcaecdaaDoor.PAll
set_option linter.unusedVariables false
theorem tzn_spec {x : Nat} (h : 0 < x) : x = 2 ^ tzn x * (x / 2 ^ tzn x) ∧ x / 2 ^ tzn x % 2 = 1 := by
  obtain ⟨h1, h2, h3⟩ := lev_spec x (2 * x) (by omega)
  have h1 : x % 2 ^ tzn x = 0 := h1
  have e : x = 2 ^ tzn x * (x / 2 ^ tzn x) := by
    have := Nat.div_add_mod x (2 ^ tzn x); omega
  refine ⟨e, ?_⟩
  rcases Nat.mod_two_eq_zero_or_one (x / 2 ^ tzn x) with h4 | h4
  · exfalso
    obtain ⟨q, hq⟩ : ∃ q, x / 2 ^ tzn x = 2 * q := ⟨x / 2 ^ tzn x / 2, by omega⟩
    rw [hq] at e
    have e2 : x = 2 ^ (tzn x + 1) * q := by
      rw [Nat.pow_succ, Nat.mul_assoc]; exact e
    have h5 : x % 2 ^ (tzn x + 1) = 0 := by
      have := Nat.mul_mod_right (2 ^ (tzn x + 1)) q
      rw [← e2] at this; exact this
    have h6 : 2 * x < x + 2 ^ (tzn x + 1) := h3 h5
    have hq0 : 0 < q := by
      rcases Nat.eq_zero_or_pos q with h | h
      · rw [h, Nat.mul_zero] at e2; omega
      · exact h
    have : 2 ^ (tzn x + 1) ≤ 2 ^ (tzn x + 1) * q := Nat.le_mul_of_pos_right _ hq0
    omega
  · exact h4
end Go.Proofs.YtielnphmcaecdaaDoor.Mth
namespace Go.Proofs.YtielnphmcaecdaaDoor.PAll
open Go.RowKit Go.Proofs.YtielnphmcaecdaaDoorW.PrintWords Go.Proofs.YtielnphmcaecdaaDoorW.PrintLast Go.Proofs.YtielnphmcaecdaaDoorW.PrintMore
attribute [local go_sem] max2_int min2_int max_two min_two max_three min_three max_four min_four   -- for this text's walks alone
set_option linter.unusedVariables false
set_option linter.unusedSimpArgs false
def spec_pathIn.f : Nat → Int → Int → Int → Option ((List (S53)))
  | 0, _, _, _ => none
  | k + 1, a0, a1_0, a1_1 => if (IntKind.u64.wrap (a1_1 - a1_0)) = 1 then (some ([] : List (S53))) else ((spec_split.f k (IntKind.u64.wrap (a1_1 - a1_0))).bind fun t359 => (if a0 < (IntKind.u64.wrap (a1_0 + t359)) then ((spec_pathIn.f k a0 a1_0 (IntKind.u64.wrap (a1_0 + t359))).bind fun t360 => ((some (([(⟨IntKind.u64.wrap (a1_0 + t359), a1_1⟩ : S53)] : List (S53)) : List (S53))).bind fun y363 => (if t360.length + y363.length < 8796093022208 then (some (t360 ++ y363)) else (none)))) else ((spec_pathIn.f k a0 (IntKind.u64.wrap (a1_0 + t359)) a1_1).bind fun t369 => ((some (([(⟨a1_0, IntKind.u64.wrap (a1_0 + t359)⟩ : S53)] : List (S53)) : List (S53))).bind fun y372 => (if t369.length + y372.length < 8796093022208 then (some (t369 ++ y372)) else (none))))))
theorem spec_pathIn.mono_l : ∀ k, (∀ y0 y1 y2, LeO (spec_pathIn.f k y0 y1 y2) (spec_pathIn.f (k + 1) y0 y1 y2))
  | 0 => fun _ _ _ r h => by simp [spec_pathIn.f] at h
  | k + 1 => by
    have ih0 := spec_pathIn.mono_l k
    · intro y0 y1 y2
      unfold spec_pathIn.f
      repeat' first
      | (with_reducible exact ih0 _ _ _)
      | (with_reducible exact spec_split.mono _ _)
      | (with_reducible exact LeO.refl _)
      | (with_reducible exact LeO.none _)
      | (with_reducible refine LeO.ite ?_ ?_)
      | (with_reducible refine LeO.bind ?_ (fun _ => ?_))
      | exact ih0 _ _ _
      | exact spec_split.mono _ _
      | exact LeO.none _
      | refine LeO.ite ?_ ?_
      | refine LeO.bind ?_ (fun _ => ?_)
theorem spec_pathIn.mono : ∀ a0 a1 a2 k, LeO (spec_pathIn.f k a0 a1 a2) (spec_pathIn.f (k + 1) a0 a1 a2) := by
  intro a0 a1 a2 k
  have ih0 := spec_pathIn.mono_l k
  exact ih0 a0 a1 a2
def spec_PathParts.f (k : Nat) (a0 : Int) (a1 : Int) : Option ((List (S53))) := (spec_pathIn.f k a0 0 a1).bind fun t378 => (some t378)
theorem spec_PathParts.mono : ∀ a0 a1 k, LeO (spec_PathParts.f k a0 a1) (spec_PathParts.f (k + 1) a0 a1) := by
  intro a0 a1 k
  unfold spec_PathParts.f
  repeat' first
      | (with_reducible exact spec_pathIn.mono _ _ _ _)
      | (with_reducible exact LeO.refl _)
      | (with_reducible exact LeO.none _)
      | (with_reducible refine LeO.ite ?_ ?_)
      | (with_reducible refine LeO.bind ?_ (fun _ => ?_))
      | exact spec_pathIn.mono _ _ _ _
      | exact LeO.none _
      | refine LeO.ite ?_ ?_
      | refine LeO.bind ?_ (fun _ => ?_)
end Go.Proofs.YtielnphmcaecdaaDoor.PAll
namespace Go.Proofs.YtielnphmcaecdaaDoor.PAll
open Go.RowKit Go.Proofs.YtielnphmcaecdaaDoor.Mth Go.Proofs.YtielnphmcaecdaaDoorW.PrintWords Go.Proofs.YtielnphmcaecdaaDoorW.PrintLast Go.Proofs.YtielnphmcaecdaaDoorW.PrintMore
set_option linter.unusedVariables false
theorem Frm.row {base g : Nat} {w w' : World} {tb : Nat} {v : Value} {ss : List SH} (h : Frm base g w w') (hR : Rw w tb v ss) (hb : w.heap.size ≤ base) (hg : v.ownBlock ≠ some g) : Rw w' tb v ss :=
  Kd.R_mono (Kd.R_step (Kd.R_tight rfl hR) (fun k hk hlt => h.block k (by omega) (fun e => hg (by rw [← hk, e])))) (fun _ _ => trivial)
def node_ (F : List Int → List Int → Option (List Int)) (L : List (List Int)) : Nat → Nat → Option (List Int)
  | 0, j => L[j]?
  | i + 1, j => (node_ F L i (2 * j)).bind fun x => (node_ F L i (2 * j + 1)).bind fun y => F x y
def allN (F : List Int → List Int → Option (List Int)) (L : List (List Int)) (n : Nat) : Bool := (List.range 64).all fun i => (List.range (n / 2 ^ i)).all fun j => (node_ F L i j).isSome
def nodeV (F : List Int → List Int → Option (List Int)) (L : List (List Int)) (i j : Nat) : List Int := (node_ F L i j).getD []
def idsIn (n : Nat) (ids : List S99) : Bool := ids.all fun id => decide (0 ≤ id.f0) && (decide (0 ≤ id.f1) && decide ((id.f1.toNat + 1) * 2 ^ id.f0.toNat ≤ n))
def impl_TreeRoot.f (k : Nat) (a0 a1 a2 a3 a4 a5 : Int) (l : List (List Int)) (size : Int) : Option (List Int × Bool) :=
  if IntKind.u64.wrap (l.length : Int) < size then some ([], false) else
  if l.length < 1099511627776 then (impl_texts.f k l).bind fun x =>
    if x.length < 1099511627776 ∧ allN (impl_toy_HashChildren.f k a0 a1 a2 a3 a4 a5) x x.length = true then
      (if size = 0 then (impl_toy_EmptyRoot.f k a0 a1 a2 a3 a4 a5).bind fun r => some (r, true)
       else (compact_RangeNodes.f k 0 size []).bind fun ids => if ids.length ≤ 100000 ∧ idsIn x.length ids = true then (foldR_ (impl_toy_HashChildren.f k a0 a1 a2 a3 a4 a5) (ids.map fun id => nodeV (impl_toy_HashChildren.f k a0 a1 a2 a3 a4 a5) x id.f0.toNat id.f1.toNat)).bind fun r => some (r, true) else none)
    else none
  else none
theorem node_mono {F F' : List Int → List Int → Option (List Int)} (h : ∀ a b, LeO (F a b) (F' a b)) (L : List (List Int)) : ∀ i j, LeO (node_ F L i j) (node_ F' L i j)
  | 0, _ => LeO.refl _
  | i + 1, j => by
    unfold node_
    exact LeO.bind (node_mono h L i _) (fun x => LeO.bind (node_mono h L i _) (fun y => h x y))
theorem foldR_mono {F F' : List Int → List Int → Option (List Int)} (h : ∀ a b, LeO (F a b) (F' a b)) : ∀ l, LeO (foldR_ F l) (foldR_ F' l)
  | [] => LeO.refl _
  | [x] => LeO.refl _
  | x :: y :: l => by
    unfold foldR_
    exact LeO.bind (foldR_mono h (y :: l)) (fun t => h x t)
theorem allN_some {F : List Int → List Int → Option (List Int)} {L : List (List Int)} {n i j : Nat} (h : allN F L n = true) (hn : n < 1099511627776) (hj : (j + 1) * 2 ^ i ≤ n) : node_ F L i j = some (nodeV F L i j) := by
  have hi : i < 64 := by
    apply Nat.lt_of_not_le
    intro h2
    have h3 := Nat.pow_le_pow_right (n := 2) (by decide) h2
    have h4 : 2 ^ i ≤ (j + 1) * 2 ^ i := Nat.le_mul_of_pos_left _ (by omega)
    have h5 : (2 : Nat) ^ 64 = 18446744073709551616 := rfl
    omega
  have h1 := List.all_eq_true.mp h i (List.mem_range.mpr hi)
  have h2 := List.all_eq_true.mp h1 j (List.mem_range.mpr (by
    have hp := Nat.two_pow_pos i
    have : j + 1 ≤ n / 2 ^ i := (Nat.le_div_iff_mul_le hp).mpr hj
    omega))
  unfold nodeV
  obtain ⟨v, hv⟩ := Option.isSome_iff_exists.mp h2
  rw [hv]; rfl
theorem idsIn_at {n : Nat} {ids : List S99} {i : Nat} {id : S99} (h : idsIn n ids = true) (hi : ids[i]? = some id) : id = ⟨((id.f0.toNat : Nat) : Int), ((id.f1.toNat : Nat) : Int)⟩ ∧ (id.f1.toNat + 1) * 2 ^ id.f0.toNat ≤ n := by
  have h1 := List.all_eq_true.mp h id (List.mem_of_getElem? hi)
  simp only [Bool.and_eq_true, decide_eq_true_eq] at h1
  obtain ⟨h2, h3, h4⟩ := h1
  obtain ⟨f0, f1⟩ := id
  refine ⟨?_, h4⟩
  show (⟨f0, f1⟩ : S99) = ⟨((f0.toNat : Nat) : Int), ((f1.toNat : Nat) : Int)⟩
  rw [Int.toNat_of_nonneg h2, Int.toNat_of_nonneg h3]
theorem impl_TreeRoot.mono : ∀ a0 a1 a2 a3 a4 a5 l size k, LeO (impl_TreeRoot.f k a0 a1 a2 a3 a4 a5 l size) (impl_TreeRoot.f (k + 1) a0 a1 a2 a3 a4 a5 l size) := by
  intro a0 a1 a2 a3 a4 a5 l size k
  have hF : ∀ a b, LeO (impl_toy_HashChildren.f k a0 a1 a2 a3 a4 a5 a b) (impl_toy_HashChildren.f (k + 1) a0 a1 a2 a3 a4 a5 a b) := fun a b => impl_toy_HashChildren.mono _ _ _ _ _ _ _ _ _
  unfold impl_TreeRoot.f
  refine LeO.ite (LeO.refl _) (LeO.ite (LeO.bind (impl_texts.mono _ _) (fun x => ?_)) (LeO.refl _))
  by_cases h : x.length < 1099511627776 ∧ allN (impl_toy_HashChildren.f k a0 a1 a2 a3 a4 a5) x x.length = true
  case neg => rw [if_neg h]; exact LeO.none _
  have hV : ∀ i j, (j + 1) * 2 ^ i ≤ x.length → node_ (impl_toy_HashChildren.f (k + 1) a0 a1 a2 a3 a4 a5) x i j = some (nodeV (impl_toy_HashChildren.f k a0 a1 a2 a3 a4 a5) x i j) := fun i j hj => node_mono hF x i j _ (allN_some h.2 h.1 hj)
  have h' : x.length < 1099511627776 ∧ allN (impl_toy_HashChildren.f (k + 1) a0 a1 a2 a3 a4 a5) x x.length = true := ⟨h.1, List.all_eq_true.mpr (fun i _ => List.all_eq_true.mpr (fun j hj => by
    rw [hV i j (by
      have := List.mem_range.mp hj
      exact (Nat.le_div_iff_mul_le (Nat.two_pow_pos i)).mp (by omega))]; rfl))⟩
  rw [if_pos h, if_pos h']
  refine LeO.ite (LeO.bind (impl_toy_EmptyRoot.mono _ _ _ _ _ _ _) (fun _ => LeO.refl _)) (LeO.bind (compact_RangeNodes.mono _ _ _ _) (fun ids => ?_))
  by_cases h2 : ids.length ≤ 100000 ∧ idsIn x.length ids = true
  case neg => rw [if_neg h2]; exact LeO.none _
  rw [if_pos h2, if_pos h2]
  have e : (ids.map fun id => nodeV (impl_toy_HashChildren.f (k + 1) a0 a1 a2 a3 a4 a5) x id.f0.toNat id.f1.toNat) = ids.map fun id => nodeV (impl_toy_HashChildren.f k a0 a1 a2 a3 a4 a5) x id.f0.toNat id.f1.toNat := by
    refine List.map_congr_left (fun id hid => ?_)
    obtain ⟨i, hi⟩ := List.getElem?_of_mem hid
    have := hV _ _ (idsIn_at h2.2 hi).2
    unfold nodeV at this ⊢
    rw [this]; rfl
  rw [e]
  exact LeO.bind (foldR_mono hF _) (fun _ => LeO.refl _)
end Go.Proofs.YtielnphmcaecdaaDoor.PAll
namespace Go.Proofs.YtielnphmcaecdaaDoor.Hsh
open Go.RowKit Go.Proofs.YtielnphmcaecdaaDoor.Num Go.Proofs.YtielnphmcaecdaaDoor.Mth Go.Proofs.YtielnphmcaecdaaDoor.PAll Go.Proofs.YtielnphmcaecdaaDoorW.PrintWords Go.Proofs.YtielnphmcaecdaaDoorW.PrintLast
set_option linter.unusedVariables false
theorem mem_bound {l : List (List Int)} {m : Nat} (h : ∀ j, j < l.length → (l.getD j []).length ≤ m) : ∀ x ∈ l, x.length ≤ m := by
  intro x hx
  obtain ⟨i, hi⟩ := List.getElem?_of_mem hx
  have := h i (List.getElem?_eq_some_iff.1 hi).1
  rw [List.getD_eq_getElem?_getD, hi] at this
  exact this
end Go.Proofs.YtielnphmcaecdaaDoor.Hsh
namespace Go.Proofs.YtielnphmcaecdaaDoor.PAll
open Go.IntWalk Go.RowKit Go.Proofs.YtielnphmcaecdaaDoor.Num Go.Proofs.YtielnphmcaecdaaDoor.Mth Go.Proofs.YtielnphmcaecdaaDoorW.PrintWords Go.Proofs.YtielnphmcaecdaaDoorW.PrintLast Go.Proofs.YtielnphmcaecdaaDoorW.PrintMore
set_option linter.unusedVariables false
set_option linter.unusedSimpArgs false
def rseed (F : List Int → List Int → Option (List Int)) (xs : List (List Int)) (M : Nat) : Nat → Option (List Int)
  | 0 => some (xs.getD M [])
  | i + 1 => (rseed F xs M i).bind fun t => F (xs.getD (M - 1 - i) []) t
theorem rseed_some {F : List Int → List Int → Option (List Int)} {xs : List (List Int)} {M : Nat} : ∀ (T : Nat) (r : List Int), rseed F xs M T = some r → ∀ t, t ≤ T → ∃ s, rseed F xs M t = some s
  | 0, r, h, t, ht => by
    obtain rfl : t = 0 := by omega
    exact ⟨r, h⟩
  | T + 1, r, h, t, ht => by
    by_cases e : t = T + 1
    · subst e; exact ⟨r, h⟩
    · rw [rseed] at h
      obtain ⟨s, hs, _⟩ := Option.bind_eq_some_iff.mp h
      exact rseed_some T s hs t (by omega)
def rsOf (F : List Int → List Int → Option (List Int)) (xs : List (List Int)) (M t : Nat) : List Int := (rseed F xs M t).getD []
theorem rseed_of {F : List Int → List Int → Option (List Int)} {xs : List (List Int)} {M T : Nat} {r : List Int} (h : rseed F xs M T = some r) {t : Nat} (ht : t ≤ T) : rseed F xs M t = some (rsOf F xs M t) := by
  obtain ⟨s, hs⟩ := rseed_some T r h t ht
  unfold rsOf
  rw [hs]; rfl
def zI (e : Int) : Nat → Int
  | 0 => e
  | i + 1 => Go.bits .and .u64 (zI e i) (IntKind.u64.wrap (zI e i - 1))
def lvI (e : Int) (i : Nat) : Nat := ((bits_TrailingZeros64.f (zI e (i + 1))).getD 0).toNat
def rootOk (F : List Int → List Int → Option (List Int)) (e : Int) (xs : List (List Int)) (M : Nat) : Bool :=
  decide (M < 1099511627776) && ((List.range M).all (fun i => decide (bits_TrailingZeros64.f (zI e (i + 1)) = some (lvI e i : Int)) && decide (lvI e i ≤ 64)) && (List.range (M + 1)).all fun i => decide ((rsOf F xs M i).length ≤ 140737488355328))
def rootV (F : List Int → List Int → Option (List Int)) (e : Int) (xs : List (List Int)) (M : Nat) : List S51 := visR (lvI e) (fun i => zI e (i + 1) / 2 ^ min (lvI e i + 1) 64) (rsOf F xs M) M
def rootF (F : List Int → List Int → Option (List Int)) (e : Int) (xs : List (List Int)) (M : Nat) : Option (List Int × List S51 × Bool) :=
  (rseed F xs M M).bind fun r => if rootOk F e xs M = true then some (r, rootV F e xs M, true) else none
def impl_RootHash.f (k : Nat) (a0 a1 a2 a3 a4 a5 b e : Int) (hs : List (List Int)) : Option (List Int × List S51 × Bool) :=
  if b = 0 ∧ 0 ≤ e ∧ compact_RangeSize.f k b e = some (hs.length : Int) then (impl_texts.f k hs).bind fun xs => if xs.length = hs.length ∧ 0 < xs.length then rootF (impl_toy_HashChildren.f k a0 a1 a2 a3 a4 a5) e xs (xs.length - 1) else none else none
theorem rseed_mono {F F' : List Int → List Int → Option (List Int)} (h : ∀ a b, LeO (F a b) (F' a b)) (xs : List (List Int)) (M : Nat) : ∀ t, LeO (rseed F xs M t) (rseed F' xs M t)
  | 0 => LeO.refl _
  | t + 1 => LeO.bind (rseed_mono h xs M t) (fun s => h _ s)
theorem rootF_mono {F F' : List Int → List Int → Option (List Int)} (h : ∀ a b, LeO (F a b) (F' a b)) (e : Int) (xs : List (List Int)) (M : Nat) : LeO (rootF F e xs M) (rootF F' e xs M) := by
  intro r hr
  unfold rootF at hr ⊢
  obtain ⟨s, hs, hr⟩ := Option.bind_eq_some_iff.mp hr
  have e1 : ∀ t, t ≤ M → rsOf F' xs M t = rsOf F xs M t := fun t ht => by
    have h1 := rseed_of hs ht
    have h2 := rseed_mono h xs M t _ h1
    unfold rsOf at h2 ⊢
    rw [h2]; rfl
  by_cases hok : rootOk F e xs M = true
  case neg => rw [if_neg hok] at hr; cases hr
  rw [if_pos hok] at hr
  have hok' : rootOk F' e xs M = true := by
    unfold rootOk at hok ⊢
    simp only [Bool.and_eq_true] at hok ⊢
    refine ⟨hok.1, hok.2.1, ?_⟩
    refine List.all_eq_true.mpr (fun t ht => ?_)
    rw [e1 t (by have := List.mem_range.mp ht; omega)]
    exact List.all_eq_true.mp hok.2.2 t ht
  have hv : rootV F' e xs M = rootV F e xs M := by
    unfold rootV visR
    refine List.map_congr_left (fun t ht => ?_)
    rw [e1 (t + 1) (by have := List.mem_range.mp ht; omega)]
  rw [rseed_mono h xs M _ _ hs, Option.bind_some, if_pos hok', hv]
  exact hr
theorem impl_RootHash.mono : ∀ a0 a1 a2 a3 a4 a5 b e hs k, LeO (impl_RootHash.f k a0 a1 a2 a3 a4 a5 b e hs) (impl_RootHash.f (k + 1) a0 a1 a2 a3 a4 a5 b e hs) := by
  intro a0 a1 a2 a3 a4 a5 b e hs k
  unfold impl_RootHash.f
  by_cases h : b = 0 ∧ 0 ≤ e ∧ compact_RangeSize.f k b e = some (hs.length : Int)
  case neg => rw [if_neg h]; exact LeO.none _
  rw [if_pos h, if_pos ⟨h.1, h.2.1, compact_RangeSize.mono _ _ _ _ h.2.2⟩]
  exact LeO.bind (impl_texts.mono _ _) (fun x => LeO.ite (rootF_mono (fun a b => impl_toy_HashChildren.mono _ _ _ _ _ _ _ _ _) _ _ _) (LeO.refl _))
end Go.Proofs.YtielnphmcaecdaaDoor.PAll
namespace Go.Proofs.YtielnphmcaecdaaDoor.Hsh
open Go.RowKit Go.Proofs.YtielnphmcaecdaaDoor.Num Go.Proofs.YtielnphmcaecdaaDoor.Mth Go.Proofs.YtielnphmcaecdaaDoor.PAll Go.Proofs.YtielnphmcaecdaaDoorW.PrintWords Go.Proofs.YtielnphmcaecdaaDoorW.PrintLast
set_option linter.unusedVariables false
set_option linter.unusedSimpArgs false
theorem tz_eq {x : Nat} (h0 : 0 < x) (hx : x < 18446744073709551616) : bits_TrailingZeros64.f (x : Int) = some ((tzn x : Nat) : Int) := by
  obtain ⟨e, ho⟩ := tzn_spec h0
  have := bits_TrailingZeros64.eq (tzn x) (x / 2 ^ tzn x) ho (by rw [← e]; exact hx)
  rw [← e] at this
  exact this
end Go.Proofs.YtielnphmcaecdaaDoor.Hsh
namespace Go.Proofs.YtielnphmcaecdaaDoor.PAll
open Go.IntWalk Go.RowKit Go.Proofs.YtielnphmcaecdaaDoor.Num Go.Proofs.YtielnphmcaecdaaDoor.Mth Go.Proofs.YtielnphmcaecdaaDoorW.PrintWords Go.Proofs.YtielnphmcaecdaaDoorW.PrintLast Go.Proofs.YtielnphmcaecdaaDoorW.PrintMore
set_option linter.unusedVariables false
def skIds (i l n : Nat) : List (Nat × Nat) := ndS i l n ++ (Nds 0 (ndE i l n) n).reverse ++ (Nds 0 0 (ndB i l n)).reverse
def skBegin (i l n : Nat) : Nat := if (Nds 0 (ndE i l n) n).length = 0 then 0 else ndM i l n
def skEnd (i l n : Nat) : Nat := if (Nds 0 (ndE i l n) n).length = 0 then 0 else ndM i l n + (Nds 0 (ndE i l n) n).length
end Go.Proofs.YtielnphmcaecdaaDoor.PAll
namespace Go.Proofs.YtielnphmcaecdaaDoor.PAll
open Go.IntWalk Go.RowKit Go.Proofs.YtielnphmcaecdaaDoor.Num Go.Proofs.YtielnphmcaecdaaDoor.Mth Go.Proofs.YtielnphmcaecdaaDoorW.PrintWords Go.Proofs.YtielnphmcaecdaaDoorW.PrintLast Go.Proofs.YtielnphmcaecdaaDoorW.PrintMore
set_option linter.unusedVariables false
theorem upB_mono {H H' : List Int → List Int → Option (List Int)} (h : ∀ a b, LeO (H a b) (H' a b)) : ∀ l s, LeO (upB_ H l s) (upB_ H' l s)
  | [], s => LeO.refl _
  | x :: xs, s => LeO.bind (h x s) (fun t => upB_mono h xs t)
def hashF (k : Nat) (a0 a1 a2 a3 a4 a5 : Int) (n b e : Nat) (l : List (List Int)) : Option (List (List Int) × Bool) :=
  (impl_texts.f k l).bind fun xs => if xs.length = n then (if b < e then upB_ (impl_toy_HashChildren.f k a0 a1 a2 a3 a4 a5) ((xs.take e).drop (b + 1)) (xs.getD b []) else some []).bind fun f => (impl_texts.f k (rehL b e xs f)).bind fun r => some (r, true)
    else (impl_texts.f k []).bind fun r => some (r, false)
theorem hashF_mono (k : Nat) (a0 a1 a2 a3 a4 a5 : Int) (n b e : Nat) (l : List (List Int)) : LeO (hashF k a0 a1 a2 a3 a4 a5 n b e l) (hashF (k + 1) a0 a1 a2 a3 a4 a5 n b e l) := by
  unfold hashF
  refine LeO.bind (impl_texts.mono _ _) (fun x => LeO.ite (LeO.bind (LeO.ite (upB_mono (fun a b => impl_toy_HashChildren.mono _ _ _ _ _ _ _ _ _) _ _) (LeO.refl _)) (fun f => LeO.bind (impl_texts.mono _ _) (fun r => LeO.refl _))) (LeO.bind (impl_texts.mono _ _) (fun r => LeO.refl _)))
def conPlan (s n : Nat) : List (Nat × Nat) × Nat × Nat :=
  if s = n ∨ s = 0 then ([], 0, 0) else if s / 2 ^ lev s (2 * s) = 1 then (skIds (s / 2 ^ lev s (2 * s) - 1) (lev s (2 * s)) n, skBegin (s / 2 ^ lev s (2 * s) - 1) (lev s (2 * s)) n, skEnd (s / 2 ^ lev s (2 * s) - 1) (lev s (2 * s)) n)
    else (ndIds (s / 2 ^ lev s (2 * s) - 1) (lev s (2 * s)) n, ndBegin (s / 2 ^ lev s (2 * s) - 1) (lev s (2 * s)) n, ndEnd (s / 2 ^ lev s (2 * s) - 1) (lev s (2 * s)) n)
def impl_InclusionHashes.f (k : Nat) (a0 a1 a2 a3 a4 a5 x1 x2 : Int) (l : List (List Int)) : Option (List (List Int) × Bool) :=
  if x2 ≤ x1 then some ([], false) else if 0 ≤ x1 ∧ x2 < 18446744073709551616 then hashF k a0 a1 a2 a3 a4 a5 (incIds x1.toNat x2.toNat).length (incBegin x1.toNat x2.toNat) (incEnd x1.toNat x2.toNat) l else none
theorem impl_InclusionHashes.mono : ∀ a0 a1 a2 a3 a4 a5 x1 x2 l k, LeO (impl_InclusionHashes.f k a0 a1 a2 a3 a4 a5 x1 x2 l) (impl_InclusionHashes.f (k + 1) a0 a1 a2 a3 a4 a5 x1 x2 l) := by
  intro a0 a1 a2 a3 a4 a5 x1 x2 l k
  unfold impl_InclusionHashes.f
  exact LeO.ite (LeO.refl _) (LeO.ite (hashF_mono _ _ _ _ _ _ _ _ _ _ _) (LeO.refl _))
def impl_ConsistencyHashes.f (k : Nat) (a0 a1 a2 a3 a4 a5 x1 x2 : Int) (l : List (List Int)) : Option (List (List Int) × Bool) :=
  if x2 < x1 then some ([], false) else if 0 ≤ x1 ∧ x2 < 18446744073709551616 then hashF k a0 a1 a2 a3 a4 a5 (conPlan x1.toNat x2.toNat).1.length (conPlan x1.toNat x2.toNat).2.1 (conPlan x1.toNat x2.toNat).2.2 l else none
theorem impl_ConsistencyHashes.mono : ∀ a0 a1 a2 a3 a4 a5 x1 x2 l k, LeO (impl_ConsistencyHashes.f k a0 a1 a2 a3 a4 a5 x1 x2 l) (impl_ConsistencyHashes.f (k + 1) a0 a1 a2 a3 a4 a5 x1 x2 l) := by
  intro a0 a1 a2 a3 a4 a5 x1 x2 l k
  unfold impl_ConsistencyHashes.f
  exact LeO.ite (LeO.refl _) (LeO.ite (hashF_mono _ _ _ _ _ _ _ _ _ _ _) (LeO.refl _))
end Go.Proofs.YtielnphmcaecdaaDoor.PAll
namespace Go.Proofs.YtielnphmcaecdaaDoor.PAll
open Go.IntWalk Go.RowKit Go.Proofs.YtielnphmcaecdaaDoorW.PrintWords Go.Proofs.YtielnphmcaecdaaDoorW.PrintLast Go.Proofs.YtielnphmcaecdaaDoorW.PrintMore
set_option linter.unusedVariables false
set_option linter.unusedSimpArgs false
def TxF (ok : Nat → Prop) (w : World) (s : SH) (b : List Int) : Prop := s.2.1 = b.length ∧ b.length ≤ s.2.2 ∧ Kd.F (Kd.int .u8) w ok s.1 b.length b
theorem TxF.below {ok : Nat → Prop} {w w' : World} {s : SH} {b : List Int} (h : TxF ok w s b) (hb : Below w.heap.size w w') : TxF ok w' s b := ⟨h.1, h.2.1, Kd.F_below h.2.2 hb⟩
theorem TxF.mono {ok ok' : Nat → Prop} {w : World} {s : SH} {b : List Int} (h : TxF ok w s b) (hk : ∀ k, ok k → ok' k) : TxF ok' w s b := ⟨h.1, h.2.1, Kd.F_mono h.2.2 hk⟩
theorem TxF.step {ok : Nat → Prop} {w w' : World} {s : SH} {b : List Int} (h : TxF ok w s b) (hm : ∀ k, ok k → k < w.heap.size → w'.heap[k]? = w.heap[k]?) : TxF ok w' s b := ⟨h.1, h.2.1, Kd.F_step h.2.2 hm⟩
theorem TxF.at {ok : Nat → Prop} {w : World} {A : Option Addr} {n c : Nat} {b : List Int} (h : TxF ok w (A, n, c) b) : n = b.length ∧ b.length ≤ c ∧ Kd.C (Kd.int .u8) w A b.length b := ⟨h.1, h.2.1, Kd.F_now h.2.2⟩
theorem sz_drew (w : World) : w.drew.heap.size = w.heap.size := rfl
theorem sz_alloc (w : World) (o : Obj) : (w.alloc o).heap.size = w.heap.size + 1 := by simp
theorem box27 (W : World) (g : Nat) (hg : g = W.heap.size) (o : Obj) : (W.alloc o).heap[g]? = some o := by subst hg; exact blk_new W o
def spec_Folded.f (k : Nat) (a0 a1 a2 a3 a4 a5 : Int) (l1 : List S49) (b1 b2 b3 b4 : Int) (l2 : List (List Int)) : Option (List (List Int)) :=
  if b3 = b4 then some l2 else if 0 ≤ b3 ∧ b3 < b4 ∧ b4 ≤ l2.length ∧ l2.length < 1000000000000 then (upB_ (spec_HashChildren.f k a0 a1 a2 a3 a4 a5) ((l2.take b4.toNat).drop (b3.toNat + 1)) (l2.getD b3.toNat [])).bind fun f => some (l2.take b3.toNat ++ f :: l2.drop b4.toNat) else none
theorem upB_mono' {H H' : List Int → List Int → Option (List Int)} (h : ∀ a b, LeO (H a b) (H' a b)) : ∀ l s, LeO (upB_ H l s) (upB_ H' l s)
  | [], s => LeO.refl _
  | x :: xs, s => LeO.bind (h x s) (fun t => upB_mono' h xs t)
theorem spec_Folded.mono : ∀ a0 a1 a2 a3 a4 a5 l1 b1 b2 b3 b4 l2 k, LeO (spec_Folded.f k a0 a1 a2 a3 a4 a5 l1 b1 b2 b3 b4 l2) (spec_Folded.f (k + 1) a0 a1 a2 a3 a4 a5 l1 b1 b2 b3 b4 l2) := by
  intro a0 a1 a2 a3 a4 a5 l1 b1 b2 b3 b4 l2 k
  unfold spec_Folded.f
  exact LeO.ite (LeO.refl _) (LeO.ite (LeO.bind (upB_mono' (fun a b => spec_HashChildren.mono _ _ _ _ _ _ _ _ _) _ _) (fun f => LeO.refl _)) (LeO.refl _))
end Go.Proofs.YtielnphmcaecdaaDoor.PAll
namespace Go.Proofs.YtielnphmcaecdaaDoor.PAll
open Go.RowKit Go.Proofs.YtielnphmcaecdaaDoorW.PrintWords Go.Proofs.YtielnphmcaecdaaDoorW.PrintLast Go.Proofs.YtielnphmcaecdaaDoorW.PrintMore
attribute [local go_sem] max2_int min2_int max_two min_two max_three min_three max_four min_four   -- for this text's walks alone
set_option linter.unusedVariables false
set_option linter.unusedSimpArgs false
def laws_logCopy.l0 : Nat → List (List Int) → List (List Int) → Int → Int → Option ((List (List Int)))
  | 0, _, _, _, _ => none
  | k + 1, x3, x6, x7, x8 => if x8 < x7 then (if 0 ≤ x8 then (if x8 < (x6.length : Int) then ((some (([] : List Int) : List Int)).bind fun y643 => (if y643.length + (rd_L1 x6 x8).length < 140737488355328 then (if x3.length < 5864062014805 then (laws_logCopy.l0 k (x3 ++ [(y643 ++ (rd_L1 x6 x8))]) x6 x7 (wrap64 (x8 + 1))) else (none)) else (none))) else (none)) else (none)) else (some x3)
def laws_logCopy.f (k : Nat) (l0 : List (List Int)) : Option ((List (List Int))) := laws_logCopy.l0 k ([] : List (List Int)) l0 (l0.length : Int) 0
theorem laws_logCopy.mono_l : ∀ k, (∀ y0 y1 y2 y3, LeO (laws_logCopy.l0 k y0 y1 y2 y3) (laws_logCopy.l0 (k + 1) y0 y1 y2 y3))
  | 0 => fun _ _ _ _ r h => by simp [laws_logCopy.l0] at h
  | k + 1 => by
    have ih0 := laws_logCopy.mono_l k
    · intro y0 y1 y2 y3
      unfold laws_logCopy.l0
      repeat' first
      | (with_reducible exact ih0 _ _ _ _)
      | (with_reducible exact LeO.refl _)
      | (with_reducible exact LeO.none _)
      | (with_reducible refine LeO.ite ?_ ?_)
      | (with_reducible refine LeO.bind ?_ (fun _ => ?_))
      | exact ih0 _ _ _ _
      | exact LeO.none _
      | refine LeO.ite ?_ ?_
      | refine LeO.bind ?_ (fun _ => ?_)
theorem laws_logCopy.mono : ∀ a0 k, LeO (laws_logCopy.f k a0) (laws_logCopy.f (k + 1) a0) := by
  intro a0 k
  have ih0 := laws_logCopy.mono_l k
  unfold laws_logCopy.f
  repeat' first
      | (with_reducible exact ih0 _ _ _ _)
      | (with_reducible exact LeO.refl _)
      | (with_reducible exact LeO.none _)
      | (with_reducible refine LeO.ite ?_ ?_)
      | (with_reducible refine LeO.bind ?_ (fun _ => ?_))
      | exact ih0 _ _ _ _
      | exact LeO.none _
      | refine LeO.ite ?_ ?_
      | refine LeO.bind ?_ (fun _ => ?_)
end Go.Proofs.YtielnphmcaecdaaDoor.PAll
namespace Go.Proofs.YtielnphmcaecdaaDoor.PAll
open Go.RowKit Go.Proofs.YtielnphmcaecdaaDoor.Num Go.Proofs.YtielnphmcaecdaaDoor.Mth Go.Proofs.YtielnphmcaecdaaDoor.Hsh Go.Proofs.YtielnphmcaecdaaDoorW.PrintWords Go.Proofs.YtielnphmcaecdaaDoorW.PrintLast
set_option linter.unusedVariables false
set_option linter.unusedSimpArgs false
theorem impl_H (a0 a1 a2 a3 a4 a5 : Int) {k : Nat} (hk : 2000000100 ≤ k) : ∀ l r : List Int, l.length ≤ 1000000000 → r.length ≤ 1000000000 → impl_toy_HashChildren.f k a0 a1 a2 a3 a4 a5 l r = some (hash a0 a2 a5 l r) :=
  fun l r hl hr => impl_hash a0 a1 a2 a3 a4 a5 l r (by omega) (by omega) (by omega)
theorem spec_H (a0 a1 a2 a3 a4 a5 : Int) {k : Nat} (hk : 2000000100 ≤ k) : ∀ l r : List Int, l.length ≤ 1000000000 → r.length ≤ 1000000000 → spec_HashChildren.f k a0 a1 a2 a3 a4 a5 l r = some (hash a0 a2 a5 l r) :=
  fun l r hl hr => spec_hash a0 a1 a2 a3 a4 a5 l r (by omega) (by omega) (by omega)
end Go.Proofs.YtielnphmcaecdaaDoor.PAll
