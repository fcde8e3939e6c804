-- Written by a program of this session (wip/tools)
import Derived.Test.YtielnphmcaecdaaDoorQIMNds
namespace Go.Proofs.YtielnphmcaecdaaDoor.Mth
def seg (L : List (List Int)) (b e : Nat) : List (List Int) := (L.take e).drop b
theorem seg_length {L : List (List Int)} {b e : Nat} (h : e ≤ L.length) : (seg L b e).length = e - b := by
  unfold seg; rw [List.length_drop, List.length_take]; omega
theorem seg_take {L : List (List Int)} {b e k : Nat} (h : b + k ≤ e) : (seg L b e).take k = seg L b (b + k) := by
  unfold seg
  rw [List.take_drop, List.take_take, Nat.min_eq_left h]
theorem seg_drop {L : List (List Int)} {b e k : Nat} : (seg L b e).drop k = seg L (b + k) e := by
  unfold seg
  rw [List.drop_drop]
theorem seg_bound {L : List (List Int)} {b e m : Nat} (h : ∀ x ∈ L, x.length ≤ m) : ∀ x ∈ seg L b e, x.length ≤ m := fun x hx => h x (List.mem_of_mem_take (List.mem_of_mem_drop hx))
def mth (H : List Int → List Int → List Int) (E : List Int) (L : List (List Int)) : List Int :=
  if _h : L.length ≤ 1 then L.headD E else H (mth H E (L.take (psplit L.length))) (mth H E (L.drop (psplit L.length)))
termination_by L.length
decreasing_by
  · have := psplit_lt (n := L.length) (by omega); rw [List.length_take]; omega
  · have := psplit_pos L.length; rw [List.length_drop]; omega
theorem mth_one (H : List Int → List Int → List Int) (E x : List Int) : mth H E [x] = x := by rw [mth, dif_pos (by simp)]; rfl
theorem mth_nil (H : List Int → List Int → List Int) (E : List Int) : mth H E [] = E := by rw [mth, dif_pos (by simp)]; rfl
theorem mth_split (H : List Int → List Int → List Int) (E : List Int) {L : List (List Int)} (h : 2 ≤ L.length) : mth H E L = H (mth H E (L.take (psplit L.length))) (mth H E (L.drop (psplit L.length))) := by
  rw [mth, dif_neg (by omega)]
theorem mth_seg (H : List Int → List Int → List Int) (E : List Int) {L : List (List Int)} {b e : Nat} (he : e ≤ L.length) (h : 2 ≤ e - b) : mth H E (seg L b e) = H (mth H E (seg L b (b + psplit (e - b)))) (mth H E (seg L (b + psplit (e - b)) e)) := by
  have hl := seg_length (b := b) he
  have hp := psplit_lt h
  rw [mth_split H E (by omega), hl, seg_take (by omega), seg_drop]
def Grows (H : List Int → List Int → List Int) : Prop := ∀ l r, (H l r).length ≤ 9 + l.length + r.length
theorem mth_length {H : List Int → List Int → List Int} (hH : Grows H) (E : List Int) (m : Nat) : ∀ (n : Nat) (L : List (List Int)), L.length = n → 0 < n → (∀ x ∈ L, x.length ≤ m) → (mth H E L).length + 9 ≤ (m + 9) * n := by
  intro n
  induction n using Nat.strongRecOn with
  | _ n ih =>
  intro L hL hn hm
  by_cases h1 : n = 1
  · obtain ⟨x, rfl⟩ : ∃ x, L = [x] := by
      match L, hL with
      | [x], _ => exact ⟨x, rfl⟩
      | [], h => simp at h; omega
      | _ :: _ :: _, h => simp at h; omega
    rw [mth_one, h1]
    have := hm x (by simp)
    omega
  · have h2 : 2 ≤ L.length := by omega
    have hp := psplit_lt h2
    have hp0 := psplit_pos L.length
    have i1 := ih (psplit L.length) (by omega) (L.take (psplit L.length)) (by rw [List.length_take]; omega) hp0 (fun x hx => hm x (List.mem_of_mem_take hx))
    have i2 := ih (L.length - psplit L.length) (by omega) (L.drop (psplit L.length)) (by rw [List.length_drop]) (by omega) (fun x hx => hm x (List.mem_of_mem_drop hx))
    have hh := hH (mth H E (L.take (psplit L.length))) (mth H E (L.drop (psplit L.length)))
    rw [mth_split H E h2]
    have e : (m + 9) * n = (m + 9) * psplit L.length + (m + 9) * (L.length - psplit L.length) := by rw [← Nat.mul_add]; congr 1; omega
    omega
theorem Nds_in (e : Nat) : ∀ (d b : Nat), e - b = d → ∀ p ∈ Nds 0 b e, b ≤ p.2 * 2 ^ p.1 ∧ (p.2 + 1) * 2 ^ p.1 ≤ e := by
  intro d
  induction d using Nat.strongRecOn with
  | _ d ih =>
  intro b hd p hp
  by_cases h : b < e
  · obtain ⟨s1, s2, _⟩ := lev_spec b e h
    have hpos := Nat.two_pow_pos (lev b e)
    rw [Nds_step 0 b e h, Nat.zero_add] at hp
    rcases List.mem_cons.mp hp with rfl | hp
    · have := Nat.div_add_mod b (2 ^ lev b e)
      rw [s1, Nat.add_zero] at this
      show b ≤ b / 2 ^ lev b e * 2 ^ lev b e ∧ (b / 2 ^ lev b e + 1) * 2 ^ lev b e ≤ e
      rw [Nat.add_mul, Nat.mul_comm (b / _), this]; omega
    · have := ih (e - (b + 2 ^ lev b e)) (by omega) (b + 2 ^ lev b e) rfl p hp
      omega
  · rw [Nds_empty (by omega)] at hp
    cases hp
def foldR (H : List Int → List Int → List Int) (E : List Int) : List (List Int) → List Int
  | [] => E
  | [x] => x
  | x :: y :: l => H x (foldR H E (y :: l))
theorem foldR_step {H : List Int → List Int → List Int} {E x : List Int} {l : List (List Int)} (h : l ≠ []) : foldR H E (x :: l) = H x (foldR H E l) := by
  cases l with
  | nil => exact absurd rfl h
  | cons y l => rfl
def nodeH (H : List Int → List Int → List Int) (E : List Int) (L : List (List Int)) (p : Nat × Nat) : List Int := mth H E (seg L (p.2 * 2 ^ p.1) ((p.2 + 1) * 2 ^ p.1))
theorem lev_is' {b e κ : Nat} (h : b < e) (h1 : b % 2 ^ κ = 0) (h2 : b + 2 ^ κ ≤ e) (h3 : e < b + 2 ^ (κ + 1)) : lev b e = κ := by
  obtain ⟨s1, s2, s3⟩ := lev_spec b e h
  rcases Nat.lt_trichotomy (lev b e) κ with hl | hl | hl
  · have hd : 2 ^ (lev b e + 1) ∣ b := Nat.dvd_trans (Nat.pow_dvd_pow 2 hl) (Nat.dvd_of_mod_eq_zero h1)
    have := s3 (Nat.mod_eq_zero_of_dvd hd)
    have := Nat.pow_le_pow_right (n := 2) (by decide) (show lev b e + 1 ≤ κ from hl)
    omega
  · exact hl
  · have := Nat.pow_le_pow_right (n := 2) (by decide) (show κ + 1 ≤ lev b e from hl)
    omega
theorem fold_nodes (H : List Int → List Int → List Int) (E : List Int) (L : List (List Int)) (n : Nat) (hn : n ≤ L.length) : ∀ (d M B : Nat), n - B = d → B % 2 ^ M = 0 → n ≤ B + 2 ^ M → B < n → foldR H E ((Nds 0 B n).map (nodeH H E L)) = mth H E (seg L B n) := by
  intro d
  induction d using Nat.strongRecOn with
  | _ d ih =>
  intro M B hd hB hM hBn
  have hnode : ∀ κ, B % 2 ^ κ = 0 → lev B n = κ → Nds 0 B n = (κ, B / 2 ^ κ) :: Nds 0 (B + 2 ^ κ) n ∧ nodeH H E L (κ, B / 2 ^ κ) = mth H E (seg L B (B + 2 ^ κ)) := by
    intro κ h1 h2
    refine ⟨by have := Nds_step 0 B n hBn; rw [h2, Nat.zero_add] at this; exact this, ?_⟩
    have := Nat.div_add_mod B (2 ^ κ)
    rw [h1, Nat.add_zero] at this
    show mth H E (seg L (B / 2 ^ κ * 2 ^ κ) ((B / 2 ^ κ + 1) * 2 ^ κ)) = _
    rw [Nat.add_mul, Nat.one_mul, Nat.mul_comm (B / _), this]
  by_cases hfull : n = B + 2 ^ M
  · obtain ⟨e1, e2⟩ := hnode M hB (lev_is' hBn hB (by omega) (by have := Nat.two_pow_pos M; rw [Nat.pow_succ]; omega))
    rw [e1, Nds_empty (by omega), List.map_cons, List.map_nil, foldR, e2, hfull]
  · by_cases h1 : n - B = 1
    · have hB0 : B % 2 ^ 0 = 0 := by rw [Nat.pow_zero, Nat.mod_one]
      have hM1 : 0 < M := by
        rcases Nat.eq_zero_or_pos M with h | h
        · subst h; rw [Nat.pow_zero] at hfull; omega
        · exact h
      obtain ⟨e1, e2⟩ := hnode 0 hB0 (lev_is' hBn hB0 (by rw [Nat.pow_zero]; omega) (by rw [Nat.zero_add, Nat.pow_one]; omega))
      rw [e1, Nds_empty (by rw [Nat.pow_zero]; omega), List.map_cons, List.map_nil, foldR, e2, Nat.pow_zero, show B + 1 = n by omega]
    · have h2 : 2 ≤ n - B := by omega
      obtain ⟨κ, hκ⟩ : ∃ κ, psplit (n - B) = 2 ^ κ := ⟨_, rfl⟩
      have hp := Nat.two_pow_pos κ
      have hlt := psplit_lt h2
      have hle := le_psplit h2
      rw [hκ] at hlt hle
      have hpow : 2 ^ (κ + 1) = 2 * 2 ^ κ := by rw [Nat.pow_succ]; omega
      have hκM : κ < M := by
        apply Nat.lt_of_not_le
        intro h
        have := Nat.pow_le_pow_right (n := 2) (by decide) h
        omega
      have hd1 : 2 ^ (κ + 1) ∣ B := Nat.dvd_trans (Nat.pow_dvd_pow 2 hκM) (Nat.dvd_of_mod_eq_zero hB)
      have hd0 : 2 ^ κ ∣ B := Nat.dvd_trans (Nat.pow_dvd_pow 2 (by omega)) hd1
      by_cases hperf : n = B + 2 ^ (κ + 1)
      · obtain ⟨e1, e2⟩ := hnode (κ + 1) (Nat.mod_eq_zero_of_dvd hd1) (lev_is' hBn (Nat.mod_eq_zero_of_dvd hd1) (by omega) (by rw [Nat.pow_succ 2 (κ + 1)]; omega))
        rw [e1, Nds_empty (by omega), List.map_cons, List.map_nil, foldR, e2, ← hperf]
      · obtain ⟨e1, e2⟩ := hnode κ (Nat.mod_eq_zero_of_dvd hd0) (lev_is' hBn (Nat.mod_eq_zero_of_dvd hd0) (by omega) (by omega))
        have i1 := ih (n - (B + 2 ^ κ)) (by omega) κ (B + 2 ^ κ) rfl (by rw [Nat.add_mod_right]; exact Nat.mod_eq_zero_of_dvd hd0) (by omega) (by omega)
        rw [e1, List.map_cons, foldR_step (by
          intro h
          have h3 := congrArg List.length h
          rw [List.length_map] at h3
          have := Nds_nonempty (l := 0) (b := B + 2 ^ κ) (e := n) (by omega)
          rw [h3] at this
          exact absurd this (Nat.lt_irrefl 0)), i1, e2, mth_seg H E hn h2, hκ]
end Go.Proofs.YtielnphmcaecdaaDoor.Mth
