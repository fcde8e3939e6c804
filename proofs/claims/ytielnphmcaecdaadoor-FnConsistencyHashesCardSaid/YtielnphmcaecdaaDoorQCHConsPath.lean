-- Written by a program of this session (wip/tools)
import Derived.Test.YtielnphmcaecdaaDoorQCHAudit
namespace Go.Proofs.YtielnphmcaecdaaDoor.Mth
def cpath (s b e : Nat) (w : Bool) : List (Nat × Nat) :=
  if s = e then (if w then [] else [(b, e)])
  else if _h : e - b ≤ 1 then []
  else if s ≤ b + psplit (e - b) then cpath s b (b + psplit (e - b)) w ++ [(b + psplit (e - b), e)]
  else cpath s (b + psplit (e - b)) e false ++ [(b, b + psplit (e - b))]
termination_by e - b
decreasing_by
  · have := psplit_lt (n := e - b) (by omega); omega
  · have := psplit_lt (n := e - b) (by omega); have := psplit_pos (e - b); omega
theorem cpath_end (s b : Nat) (w : Bool) : cpath s b s w = if w then [] else [(b, s)] := by rw [cpath, if_pos rfl]
theorem cpath_left {s b e : Nat} (h : 2 ≤ e - b) (he : s ≠ e) (hs : s ≤ b + psplit (e - b)) (w : Bool) : cpath s b e w = cpath s b (b + psplit (e - b)) w ++ [(b + psplit (e - b), e)] := by
  rw [cpath, if_neg he, dif_neg (by omega), if_pos hs]
theorem cpath_right {s b e : Nat} (h : 2 ≤ e - b) (he : s ≠ e) (hs : b + psplit (e - b) < s) (w : Bool) : cpath s b e w = cpath s (b + psplit (e - b)) e false ++ [(b, b + psplit (e - b))] := by
  rw [cpath, if_neg he, dif_neg (by omega), if_neg (by omega)]
theorem two_odd {l M κ c : Nat} (hM : M % 2 = 1) (hc : c % 2 = 1) (h : 2 ^ l * M = 2 ^ κ * c) : l = κ := by
  rcases Nat.lt_trichotomy l κ with h1 | h1 | h1
  · exfalso
    obtain ⟨d, rfl⟩ : ∃ d, κ = l + (d + 1) := ⟨κ - l - 1, by omega⟩
    rw [Nat.pow_add, Nat.mul_assoc] at h
    have := Nat.eq_of_mul_eq_mul_left (Nat.two_pow_pos l) h
    rw [Nat.pow_succ, Nat.mul_assoc, Nat.mul_left_comm] at this
    omega
  · exact h1
  · exfalso
    obtain ⟨d, rfl⟩ : ∃ d, l = κ + (d + 1) := ⟨l - κ - 1, by omega⟩
    rw [Nat.pow_add, Nat.mul_assoc] at h
    have := (Nat.eq_of_mul_eq_mul_left (Nat.two_pow_pos κ) h).symm
    rw [Nat.pow_succ, Nat.mul_assoc, Nat.mul_left_comm] at this
    omega
theorem low_le {l M c κ s : Nat} (hs : s = 2 ^ l * M) (h1 : c * 2 ^ κ < s) (h2 : s < (c + 1) * 2 ^ κ) : l < κ := by
  apply Nat.lt_of_not_le; intro h
  obtain ⟨d, rfl⟩ : ∃ d, l = κ + d := ⟨l - κ, by omega⟩
  have e : s = 2 ^ d * M * 2 ^ κ := by rw [hs, Nat.pow_add]; ac_rfl
  rw [e] at h1 h2
  have a := Nat.lt_of_mul_lt_mul_right h1
  have b := Nat.lt_of_mul_lt_mul_right h2
  omega
theorem drop_snoc {α : Type} {l : Nat} {a : List α} (b : List α) (h : l ≤ a.length) : (a ++ b).drop l = a.drop l ++ b := by
  rw [List.drop_append, show l - a.length = 0 by omega, List.drop_zero]
theorem cpath_perfect {l M s : Nat} (hM : M % 2 = 1) (hs : s = 2 ^ l * M) (κ : Nat) : ∀ (b : Nat) (w : Bool), b * 2 ^ κ < s → s ≤ (b + 1) * 2 ^ κ → (s = (b + 1) * 2 ^ κ → b % 2 = 0) →
    cpath s (b * 2 ^ κ) ((b + 1) * 2 ^ κ) w = (if w = true ∧ s = b * 2 ^ κ + 2 ^ l then [] else [(s - 2 ^ l, s)]) ++ (path (s - 1) (b * 2 ^ κ) ((b + 1) * 2 ^ κ)).drop l ∧ l ≤ (path (s - 1) (b * 2 ^ κ) ((b + 1) * 2 ^ κ)).length ∧ l ≤ κ := by
  have hpl := Nat.two_pow_pos l
  induction κ with
  | zero =>
    intro b w h1 h2 h3
    simp only [Nat.pow_zero, Nat.mul_one] at h1 h2 h3 ⊢
    have e : s = b + 1 := by omega
    have hl : l = 0 := two_odd (κ := 0) (c := s) hM (by have := h3 e; omega) (by rw [← hs, Nat.pow_zero, Nat.one_mul])
    subst hl
    rw [← e, cpath_end, path_one (by omega), Nat.pow_zero]
    refine ⟨?_, Nat.le_refl _, Nat.le_refl _⟩
    cases w
    · rw [if_neg (by simp), if_neg (by simp), show s - 1 = b by omega]; rfl
    · rw [if_pos rfl, if_pos ⟨rfl, by omega⟩]; rfl
  | succ κ ih =>
    intro b w h1 h2 h3
    have hp := Nat.two_pow_pos κ
    have e1 : b * 2 ^ (κ + 1) = 2 * b * 2 ^ κ := by rw [Nat.pow_succ]; ac_rfl
    have e3 : (2 * b + 1) * 2 ^ κ = 2 * b * 2 ^ κ + 2 ^ κ := by rw [Nat.add_mul, Nat.one_mul]
    have e4 : (b + 1) * 2 ^ (κ + 1) = (2 * b + 1 + 1) * 2 ^ κ := by rw [Nat.pow_succ, show 2 * b + 1 + 1 = 2 * (b + 1) by omega]; ac_rfl
    have e5 : (2 * b + 1 + 1) * 2 ^ κ = 2 * b * 2 ^ κ + 2 ^ κ + 2 ^ κ := by rw [Nat.add_mul, e3, Nat.one_mul]
    have e6 : (b + 1) * 2 ^ (κ + 1) - b * 2 ^ (κ + 1) = 2 ^ (κ + 1) := by rw [Nat.add_mul]; omega
    have h2p : 2 ≤ (b + 1) * 2 ^ (κ + 1) - b * 2 ^ (κ + 1) := by rw [e6, Nat.pow_succ]; omega
    have hsp : psplit ((b + 1) * 2 ^ (κ + 1) - b * 2 ^ (κ + 1)) = 2 ^ κ := by rw [e6, psplit_pow]
    by_cases he : s = (b + 1) * 2 ^ (κ + 1)
    · have hl : l = κ + 1 := two_odd (c := b + 1) hM (by have := h3 he; omega) (by rw [← hs, he, Nat.mul_comm])
      have hpe := path_perfect (κ + 1) b (s - 1) (by omega) (by omega)
      rw [← he] at hpe ⊢
      rw [cpath_end, hpe]
      have hll : ((sibs (s - 1) (κ + 1)).map lvs).length = κ + 1 := by unfold sibs; simp
      refine ⟨?_, by omega, by omega⟩
      rw [List.drop_of_length_le (by omega), List.append_nil]
      have e7 : s = b * 2 ^ (κ + 1) + 2 ^ l := by rw [hl, he, Nat.add_mul, Nat.one_mul]
      cases w
      · rw [if_neg (by simp), if_neg (by simp), show s - 2 ^ l = b * 2 ^ (κ + 1) by omega]
      · rw [if_pos rfl, if_pos ⟨rfl, e7⟩]
    · have hlt : s < (b + 1) * 2 ^ (κ + 1) := by omega
      have hl := low_le hs h1 hlt
      by_cases hm : s ≤ b * 2 ^ (κ + 1) + 2 ^ κ
      · obtain ⟨i1, i2, i3⟩ := ih (2 * b) w (by rw [← e1]; exact h1) (by rw [e3, ← e1]; exact hm) (fun _ => by omega)
        rw [e3, ← e1] at i1 i2
        rw [cpath_left h2p he (by rw [hsp]; exact hm), path_left h2p (by rw [hsp]; omega), hsp, i1, drop_snoc _ i2, List.append_assoc]
        exact ⟨rfl, by rw [List.length_append]; omega, by omega⟩
      · obtain ⟨i1, i2, i3⟩ := ih (2 * b + 1) false (by rw [e3, ← e1]; omega) (by rw [← e4]; exact h2) (fun h => absurd (h.trans e4.symm) he)
        rw [e3, ← e1, ← e4] at i1 i2
        rw [cpath_right h2p he (by rw [hsp]; omega), path_right h2p (by rw [hsp]; omega), hsp, i1, drop_snoc _ i2, List.append_assoc]
        refine ⟨?_, by rw [List.length_append]; omega, by omega⟩
        have : 2 ^ l ≤ 2 ^ κ := Nat.pow_le_pow_right (by decide) (by omega)
        rw [if_neg (by simp), if_neg (by omega)]
theorem cpath_parts {l M s : Nat} (hM : M % 2 = 1) (hs : s = 2 ^ l * M) (n : Nat) : ∀ (d K B : Nat) (w : Bool), n - B = d → B % 2 ^ K = 0 → n < B + 2 ^ K → B < s → s < n →
    cpath s B n w = (if w = true ∧ s = B + 2 ^ l then [] else [(s - 2 ^ l, s)]) ++ (path (s - 1) B n).drop l ∧ l ≤ (path (s - 1) B n).length := by
  have hpl := Nat.two_pow_pos l
  intro d
  induction d using Nat.strongRecOn with
  | _ d ih =>
  intro K B w hd hB hn h1 h2
  have h2p : 2 ≤ n - B := by omega
  obtain ⟨κ, hκ⟩ : ∃ κ, psplit (n - B) = 2 ^ κ := ⟨_, rfl⟩
  have hp := Nat.two_pow_pos κ
  have hlt := psplit_lt h2p
  have hle := le_psplit h2p
  rw [hκ] at hlt hle
  have hpow : 2 ^ (κ + 1) = 2 * 2 ^ κ := by rw [Nat.pow_succ]; omega
  have hκM : κ < K := by
    apply Nat.lt_of_not_le
    intro h
    have := Nat.pow_le_pow_right (n := 2) (by decide) h
    omega
  obtain ⟨β, hβ⟩ := Nat.dvd_trans (Nat.pow_dvd_pow 2 hκM) (Nat.dvd_of_mod_eq_zero hB)
  have hβ1 : B = β * 2 ^ (κ + 1) := by rw [hβ]; ac_rfl
  have hβ2 : B = 2 * β * 2 ^ κ := by rw [hβ1, hpow]; ac_rfl
  have e1 : (β + 1) * 2 ^ (κ + 1) = B + 2 ^ (κ + 1) := by rw [Nat.add_mul, ← hβ1, Nat.one_mul]
  have e3 : (2 * β + 1) * 2 ^ κ = B + 2 ^ κ := by rw [Nat.add_mul, ← hβ2, Nat.one_mul]
  by_cases hperf : n = B + 2 ^ (κ + 1)
  · obtain ⟨i1, i2, _⟩ := cpath_perfect hM hs (κ + 1) β w (by omega) (by omega) (fun h => by omega)
    rw [e1, ← hβ1, ← hperf] at i1 i2
    exact ⟨i1, i2⟩
  · by_cases hm : s ≤ B + 2 ^ κ
    · obtain ⟨i1, i2, i3⟩ := cpath_perfect hM hs κ (2 * β) w (by omega) (by omega) (fun _ => by omega)
      rw [e3, ← hβ2] at i1 i2
      rw [cpath_left h2p (by omega) (by omega), path_left h2p (by omega), hκ, i1, drop_snoc _ i2, List.append_assoc]
      exact ⟨rfl, by rw [List.length_append]; omega⟩
    · obtain ⟨i1, i2⟩ := ih (n - (B + 2 ^ κ)) (by omega) κ (B + 2 ^ κ) false rfl (by rw [hβ2, Nat.mul_comm (2 * β), Nat.add_mod_right, Nat.mul_mod_right]) (by omega) (by omega) h2
      rw [cpath_right h2p (by omega) (by omega), path_right h2p (by omega), hκ, i1, drop_snoc _ i2, List.append_assoc]
      refine ⟨?_, by rw [List.length_append]; omega⟩
      have hl : l ≤ κ := by
        have h3 : (2 * β + 1) * 2 ^ κ < s := by omega
        have h4 : s < (2 * β + 1 + 1) * 2 ^ κ := by rw [Nat.add_mul (2 * β + 1), e3, Nat.one_mul]; omega
        exact Nat.le_of_lt (low_le hs h3 h4)
      have : 2 ^ l ≤ 2 ^ κ := Nat.pow_le_pow_right (by decide) hl
      rw [if_neg (by simp), if_neg (by omega)]
def upS (i l m : Nat) : List (Nat × Nat) := (List.range m).map fun t => sib i (l + t)
theorem sibs_drop (i l m : Nat) : (sibs i (l + m)).drop l = upS i l m := by
  unfold sibs upS
  rw [← List.map_drop]
  have : (List.range (l + m)).drop l = (List.range m).map (l + ·) := by
    apply List.ext_getElem
    · simp
    · intro j h1 h2; simp
  rw [this, List.map_map]; rfl
end Go.Proofs.YtielnphmcaecdaaDoor.Mth
