-- Written by a program of this session (wip/tools)
import Derived.Test.YtielnphmcaecdaaDoorQITPathLen
import Derived.Test.YtielnphmcaecdaaDoorQITExtCons
import Derived.Test.YtielnphmcaecdaaDoorQITPAllx7
import Derived.Test.YtielnphmcaecdaaDoorQITCap
import Derived.Test.YtielnphmcaecdaaDoorQITPAllx0
import Derived.Test.YtielnphmcaecdaaDoorQITPAllx6
import Derived.Test.YtielnphmcaecdaaDoorQITPAllx5
import Derived.Outline
import Derived.Deep.QuietTactic
import Derived.BigQuiet
import Derived.IntWalk
import Derived.Test.YtielnphmcaecdaaDoorQITExtVerB
namespace Go.Proofs.YtielnphmcaecdaaDoor.Mth
open Go.Proofs.YtielnphmcaecdaaDoor.PAll
set_option linter.unusedVariables false
theorem dirs_shift (d : Nat) : ∀ (m i b e : Nat), e - b = m → dirs (i + d) (b + d) (e + d) = dirs i b e := by
  intro m
  induction m using Nat.strongRecOn with
  | _ m ih =>
  intro i b e hm
  by_cases h : e - b ≤ 1
  · rw [dirs_one h, dirs_one (by omega)]
  · have h1 := psplit_lt (n := e - b) (by omega)
    have h2 := psplit_pos (e - b)
    have es : e + d - (b + d) = e - b := by omega
    by_cases hi : i < b + psplit (e - b)
    · rw [dirs_left (by omega) hi, dirs_left (by omega) (by rw [es]; omega), es, ← ih (b + psplit (e - b) - b) (by omega) i b (b + psplit (e - b)) rfl]
      rw [show b + d + psplit (e - b) = b + psplit (e - b) + d by omega]
    · rw [dirs_right (i := i) (b := b) (e := e) (by omega) (by omega), dirs_right (i := i + d) (b := b + d) (e := e + d) (by omega) (by rw [es]; omega), es, ← ih (e - (b + psplit (e - b))) (by omega) i (b + psplit (e - b)) e rfl]
      rw [show b + d + psplit (e - b) = b + psplit (e - b) + d by omega]
def bitsOf (i f : Nat) : List Bool := (List.range f).map fun t => decide (i / 2 ^ t % 2 = 1)
theorem bitsOf_succ (i f : Nat) : bitsOf i (f + 1) = bitsOf i f ++ [decide (i / 2 ^ f % 2 = 1)] := by unfold bitsOf; rw [List.range_succ, List.map_append]; rfl
theorem dirs_pow (κ : Nat) : ∀ (i q : Nat), q * 2 ^ κ ≤ i → i < q * 2 ^ κ + 2 ^ κ → dirs i (q * 2 ^ κ) (q * 2 ^ κ + 2 ^ κ) = bitsOf i κ := by
  induction κ with
  | zero => intro i q h1 h2; rw [dirs_one (by omega)]; rfl
  | succ κ ih =>
    intro i q h1 h2
    have hp := Nat.two_pow_pos κ
    have e : 2 ^ (κ + 1) = 2 ^ κ + 2 ^ κ := by rw [Nat.pow_succ]; omega
    have e2 : q * 2 ^ (κ + 1) = 2 * q * 2 ^ κ := by rw [Nat.pow_succ, Nat.mul_comm (2 ^ κ), ← Nat.mul_assoc, Nat.mul_comm q 2]
    have hs : psplit (q * 2 ^ (κ + 1) + 2 ^ (κ + 1) - q * 2 ^ (κ + 1)) = 2 ^ κ := by rw [Nat.add_sub_cancel_left]; exact psplit_pow κ
    have hd : 2 ≤ q * 2 ^ (κ + 1) + 2 ^ (κ + 1) - q * 2 ^ (κ + 1) := by omega
    rw [bitsOf_succ]
    by_cases hi : i < q * 2 ^ (κ + 1) + 2 ^ κ
    · rw [dirs_left hd (by rw [hs]; exact hi), hs]
      have hq : i / 2 ^ κ = 2 * q := by
        apply Nat.div_eq_of_lt_le
        · omega
        · rw [Nat.succ_mul]; omega
      rw [hq, e2, ih i (2 * q) (by omega) (by omega), decide_eq_false (by omega)]
    · rw [dirs_right hd (by rw [hs]; omega), hs]
      have e3 : (2 * q + 1) * 2 ^ κ = 2 * q * 2 ^ κ + 2 ^ κ := by rw [Nat.add_mul, Nat.one_mul]
      have hq : i / 2 ^ κ = 2 * q + 1 := by
        apply Nat.div_eq_of_lt_le
        · omega
        · rw [Nat.succ_mul]; omega
      have := ih i (2 * q + 1) (by omega) (by omega)
      rw [e3] at this
      rw [hq, e2, e, ← Nat.add_assoc, this, decide_eq_true (by omega)]
theorem dirs_zero (n : Nat) : ∀ i, i < n → dirs i 0 n = bitsOf i (fork i (n - 1)) ++ List.replicate (ones (i / 2 ^ fork i (n - 1))) true := by
  induction n using Nat.strongRecOn with
  | _ n ih =>
  intro i hi
  by_cases h1 : n ≤ 1
  · have e1 : n = 1 := by omega
    have e2 : i = 0 := by omega
    subst e1 e2
    rw [dirs_one (by omega), show (1 - 1 : Nat) = 0 from rfl, fork_self, Nat.pow_zero, Nat.div_one, ones_zero]; rfl
  · obtain ⟨κ, hκ⟩ : ∃ κ, psplit (n - 0) = 2 ^ κ := ⟨_, rfl⟩
    have hp := Nat.two_pow_pos κ
    have hlt := psplit_lt (n := n - 0) (by omega)
    have hle := le_psplit (n := n - 0) (by omega)
    rw [hκ] at hlt hle
    have hpow : 2 ^ (κ + 1) = 2 * 2 ^ κ := by rw [Nat.pow_succ]; omega
    by_cases hi2 : i < 2 ^ κ
    · have hf : fork i (n - 1) = κ + 1 := by
        have a : fork i (n - 1) ≤ κ + 1 := fork_le.2 (by rw [Nat.div_eq_of_lt (by omega), Nat.div_eq_of_lt (by omega)])
        have b : ¬ fork i (n - 1) ≤ κ := fun h => by
          have := fork_le.1 h
          rw [Nat.div_eq_of_lt hi2] at this
          have h3 : 1 ≤ (n - 1) / 2 ^ κ := by rw [Nat.le_div_iff_mul_le hp]; omega
          omega
        omega
      have hd := dirs_pow κ i 0 (by omega) (by omega)
      rw [Nat.zero_mul] at hd
      rw [dirs_left (by omega) (by rw [hκ]; omega), hκ, hf, Nat.div_eq_of_lt (by omega), ones_zero, hd, bitsOf_succ, Nat.div_eq_of_lt hi2, decide_eq_false (by omega)]
      simp
    · obtain ⟨j, rfl⟩ : ∃ j, i = j + 2 ^ κ := ⟨i - 2 ^ κ, by omega⟩
      obtain ⟨m, rfl⟩ : ∃ m, n = m + 2 ^ κ := ⟨n - 2 ^ κ, by omega⟩
      have e0 := dirs_shift (2 ^ κ) _ j 0 m rfl
      rw [dirs_right (by omega) (by rw [hκ]; omega), hκ, e0, ih m (by omega) j (by omega)]
      have hf1 : fork j (m - 1) ≤ κ := fork_le.2 (by rw [Nat.div_eq_of_lt (by omega), Nat.div_eq_of_lt (by omega)])
      have hf : fork (j + 2 ^ κ) (m + 2 ^ κ - 1) = fork j (m - 1) := by
        have e1 : m + 2 ^ κ - 1 = 2 ^ κ + (m - 1) := by omega
        have hi : ∀ x, x ≤ κ → (fork (j + 2 ^ κ) (m + 2 ^ κ - 1) ≤ x ↔ fork j (m - 1) ≤ x) := by
          intro x hx
          rw [fork_le, fork_le, e1, Nat.add_comm j, div_top hx, div_top hx]; omega
        have a := (hi _ hf1).2 (Nat.le_refl _)
        have b := (hi _ (Nat.le_trans a hf1)).1 (Nat.le_refl _)
        omega
      have hlt2 : j / 2 ^ fork j (m - 1) < 2 ^ (κ - fork j (m - 1)) := by
        rw [Nat.div_lt_iff_lt_mul (Nat.two_pow_pos _), ← Nat.pow_add, show κ - fork j (m - 1) + fork j (m - 1) = κ by omega]; omega
      have hb : bitsOf (j + 2 ^ κ) (fork j (m - 1)) = bitsOf j (fork j (m - 1)) := by
        unfold bitsOf
        apply List.map_congr_left
        intro t ht
        have ht := List.mem_range.1 ht
        have hev : 2 ^ (κ - t) % 2 = 0 := Nat.mod_eq_zero_of_dvd ⟨2 ^ (κ - t - 1), by rw [← Nat.pow_succ']; congr 1; omega⟩
        have e5 : (j + 2 ^ κ) / 2 ^ t = 2 ^ (κ - t) + j / 2 ^ t := by rw [Nat.add_comm j, div_top (by omega)]
        rw [e5]
        congr 1
        apply propext
        omega
      rw [hf, hb, Nat.add_comm j (2 ^ κ), div_top hf1, ones_top_add hlt2, List.append_assoc, Nat.add_comm 1, List.replicate_succ']
end Go.Proofs.YtielnphmcaecdaaDoor.Mth
namespace Go.Proofs.YtielnphmcaecdaaDoor.Mth
open Go.Proofs.YtielnphmcaecdaaDoor.PAll
set_option linter.unusedVariables false
theorem chn_fd (R H : List Int → List Int → List Int) (idx : Nat) : ∀ (xs : List (List Int)) (i : Nat) (s : List Int), chn R H idx xs i s = fd R H ((List.range xs.length).map fun t => decide (idx / 2 ^ (i + t) % 2 = 1)) xs s
  | [], _, _ => rfl
  | x :: xs, i, s => by
    rw [chn, chn_fd R H idx xs (i + 1), List.length_cons, List.range_succ_eq_map, List.map_cons, List.map_map]
    have e : (if decide (idx / 2 ^ (i + 0) % 2 = 1) = true then H x s else R s x) = (if idx / 2 ^ i % 2 = 0 then R s x else H x s) := by
      rw [Nat.add_zero]
      by_cases h : idx / 2 ^ i % 2 = 0
      · rw [if_pos h, if_neg (by rw [decide_eq_false (by omega)]; decide)]
      · rw [if_neg h, if_pos (decide_eq_true (by omega))]
    have e2 : (List.range xs.length).map (fun t => decide (idx / 2 ^ (i + 1 + t) % 2 = 1)) = (List.range xs.length).map ((fun t => decide (idx / 2 ^ (i + t) % 2 = 1)) ∘ Nat.succ) := by
      apply List.map_congr_left
      intro t _
      show _ = decide (idx / 2 ^ (i + (t + 1)) % 2 = 1)
      rw [show i + 1 + t = i + (t + 1) by omega]
    rw [e2]
    show _ = fd R H _ xs (if decide (idx / 2 ^ (i + 0) % 2 = 1) = true then H x s else R s x)
    rw [e]
theorem bord_fd (R H : List Int → List Int → List Int) : ∀ (xs : List (List Int)) (s : List Int), bord H xs s = fd R H (List.replicate xs.length true) xs s
  | [], _ => rfl
  | x :: xs, s => by
    rw [bord, bord_fd R H xs]; rfl
theorem prog_fd (R H : List Int → List Int → List Int) {i n l : Nat} (hi : i < n) (hl : l ≤ fork i (n - 1)) (ys : List (List Int)) (hy : ys.length = fork i (n - 1) - l + ones (i / 2 ^ fork i (n - 1))) (s : List Int) :
    bord H (ys.drop (fork i (n - 1) - l)) (chn R H (i / 2 ^ l) (ys.take (fork i (n - 1) - l)) 0 s) = fd R H ((dirs i 0 n).drop l) ys s := by
  have hlt : (ys.take (fork i (n - 1) - l)).length = fork i (n - 1) - l := by rw [List.length_take]; omega
  have hld : (ys.drop (fork i (n - 1) - l)).length = ones (i / 2 ^ fork i (n - 1)) := by rw [List.length_drop]; omega
  rw [bord_fd R H, chn_fd, hlt, hld, ← fd_append _ _ _ _ _ _ _ (by rw [List.length_map, List.length_range, hlt]), List.take_append_drop, dirs_zero n i hi, drop_snoc _ (by unfold bitsOf; rw [List.length_map, List.length_range]; exact hl)]
  have e : ((List.range (fork i (n - 1))).map fun t => decide (i / 2 ^ t % 2 = 1)).drop l = (List.range (fork i (n - 1) - l)).map fun t => decide (i / 2 ^ l / 2 ^ (0 + t) % 2 = 1) := by
    apply List.ext_getElem
    · rw [List.length_drop, List.length_map, List.length_map, List.length_range, List.length_range]
    · intro t h1 h2
      rw [List.getElem_drop, List.getElem_map, List.getElem_map, List.getElem_range, List.getElem_range, Nat.zero_add, Nat.div_div_eq_div_mul, ← Nat.pow_add]
  unfold bitsOf
  rw [e]
end Go.Proofs.YtielnphmcaecdaaDoor.Mth
namespace Go.Proofs.YtielnphmcaecdaaDoor.Mth
def seg (L : List (List Int)) (b e : Nat) : List (List Int) := (L.take e).drop b
theorem seg_length {L : List (List Int)} {b e : Nat} (h : e ≤ L.length) : (seg L b e).length = e - b := by
  unfold seg; rw [List.length_drop, List.length_take]; omega
theorem seg_take {L : List (List Int)} {b e k : Nat} (h : b + k ≤ e) : (seg L b e).take k = seg L b (b + k) := by
  unfold seg
  rw [List.take_drop, List.take_take, Nat.min_eq_left h]
theorem seg_drop {L : List (List Int)} {b e k : Nat} : (seg L b e).drop k = seg L (b + k) e := by
  unfold seg
  rw [List.drop_drop]
theorem seg_one {L : List (List Int)} {b : Nat} (h : b < L.length) : seg L b (b + 1) = [L[b]] := by
  unfold seg
  rw [List.drop_take, Nat.add_sub_cancel_left, List.drop_eq_getElem_cons h]; rfl
theorem seg_zero (L : List (List Int)) (e : Nat) : seg L 0 e = L.take e := by unfold seg; rw [List.drop_zero]
theorem seg_bound {L : List (List Int)} {b e m : Nat} (h : ∀ x ∈ L, x.length ≤ m) : ∀ x ∈ seg L b e, x.length ≤ m := fun x hx => h x (List.mem_of_mem_take (List.mem_of_mem_drop hx))
def mth (H : List Int → List Int → List Int) (E : List Int) (L : List (List Int)) : List Int :=
  if _h : L.length ≤ 1 then L.headD E else H (mth H E (L.take (psplit L.length))) (mth H E (L.drop (psplit L.length)))
termination_by L.length
decreasing_by
  · have := psplit_lt (n := L.length) (by omega); rw [List.length_take]; omega
  · have := psplit_pos L.length; rw [List.length_drop]; omega
theorem mth_one (H : List Int → List Int → List Int) (E x : List Int) : mth H E [x] = x := by rw [mth, dif_pos (by simp)]; rfl
theorem mth_nil (H : List Int → List Int → List Int) (E : List Int) : mth H E [] = E := by rw [mth, dif_pos (by simp)]; rfl
theorem mth_split (H : List Int → List Int → List Int) (E : List Int) {L : List (List Int)} (h : 2 ≤ L.length) : mth H E L = H (mth H E (L.take (psplit L.length))) (mth H E (L.drop (psplit L.length))) := by
  rw [mth, dif_neg (by omega)]
theorem mth_seg (H : List Int → List Int → List Int) (E : List Int) {L : List (List Int)} {b e : Nat} (he : e ≤ L.length) (h : 2 ≤ e - b) : mth H E (seg L b e) = H (mth H E (seg L b (b + psplit (e - b)))) (mth H E (seg L (b + psplit (e - b)) e)) := by
  have hl := seg_length (b := b) he
  have hp := psplit_lt h
  rw [mth_split H E (by omega), hl, seg_take (by omega), seg_drop]
def Grows (H : List Int → List Int → List Int) : Prop := ∀ l r, (H l r).length ≤ 9 + l.length + r.length
theorem mth_length {H : List Int → List Int → List Int} (hH : Grows H) (E : List Int) (m : Nat) : ∀ (n : Nat) (L : List (List Int)), L.length = n → 0 < n → (∀ x ∈ L, x.length ≤ m) → (mth H E L).length + 9 ≤ (m + 9) * n := by
  intro n
  induction n using Nat.strongRecOn with
  | _ n ih =>
  intro L hL hn hm
  by_cases h1 : n = 1
  · obtain ⟨x, rfl⟩ : ∃ x, L = [x] := by
      match L, hL with
      | [x], _ => exact ⟨x, rfl⟩
      | [], h => simp at h; omega
      | _ :: _ :: _, h => simp at h; omega
    rw [mth_one, h1]
    have := hm x (by simp)
    omega
  · have h2 : 2 ≤ L.length := by omega
    have hp := psplit_lt h2
    have hp0 := psplit_pos L.length
    have i1 := ih (psplit L.length) (by omega) (L.take (psplit L.length)) (by rw [List.length_take]; omega) hp0 (fun x hx => hm x (List.mem_of_mem_take hx))
    have i2 := ih (L.length - psplit L.length) (by omega) (L.drop (psplit L.length)) (by rw [List.length_drop]) (by omega) (fun x hx => hm x (List.mem_of_mem_drop hx))
    have hh := hH (mth H E (L.take (psplit L.length))) (mth H E (L.drop (psplit L.length)))
    rw [mth_split H E h2]
    have e : (m + 9) * n = (m + 9) * psplit L.length + (m + 9) * (L.length - psplit L.length) := by rw [← Nat.mul_add]; congr 1; omega
    omega
theorem mth_perfect (H : List Int → List Int → List Int) (E : List Int) {L : List (List Int)} {i j : Nat} (h : (j + 1) * 2 ^ (i + 1) ≤ L.length) :
    mth H E (seg L (j * 2 ^ (i + 1)) ((j + 1) * 2 ^ (i + 1))) = H (mth H E (seg L (2 * j * 2 ^ i) ((2 * j + 1) * 2 ^ i))) (mth H E (seg L ((2 * j + 1) * 2 ^ i) ((2 * j + 1 + 1) * 2 ^ i))) := by
  have hp := Nat.two_pow_pos i
  have e1 : j * 2 ^ (i + 1) = 2 * j * 2 ^ i := by rw [Nat.pow_succ]; ac_rfl
  have e2 : (2 * j + 1) * 2 ^ i = 2 * j * 2 ^ i + 2 ^ i := by rw [Nat.add_mul, Nat.one_mul]
  have e3 : (j + 1) * 2 ^ (i + 1) = (2 * j + 1 + 1) * 2 ^ i := by rw [show 2 * j + 1 + 1 = 2 * (j + 1) by omega, Nat.pow_succ]; ac_rfl
  have e4 : (2 * j + 1 + 1) * 2 ^ i = 2 * j * 2 ^ i + 2 ^ i + 2 ^ i := by rw [Nat.add_mul, e2, Nat.one_mul]
  have e5 : (j + 1) * 2 ^ (i + 1) - j * 2 ^ (i + 1) = 2 ^ (i + 1) := by rw [e1, e3, e4, Nat.pow_succ]; omega
  rw [mth_seg H E h (by rw [e5, Nat.pow_succ]; omega), e5, psplit_pow, e1, ← e2, e3]
theorem Nds_in (e : Nat) : ∀ (d b : Nat), e - b = d → ∀ p ∈ Nds 0 b e, b ≤ p.2 * 2 ^ p.1 ∧ (p.2 + 1) * 2 ^ p.1 ≤ e := by
  intro d
  induction d using Nat.strongRecOn with
  | _ d ih =>
  intro b hd p hp
  by_cases h : b < e
  · obtain ⟨s1, s2, _⟩ := lev_spec b e h
    have hpos := Nat.two_pow_pos (lev b e)
    rw [Nds_step 0 b e h, Nat.zero_add] at hp
    rcases List.mem_cons.mp hp with rfl | hp
    · have := Nat.div_add_mod b (2 ^ lev b e)
      rw [s1, Nat.add_zero] at this
      show b ≤ b / 2 ^ lev b e * 2 ^ lev b e ∧ (b / 2 ^ lev b e + 1) * 2 ^ lev b e ≤ e
      rw [Nat.add_mul, Nat.mul_comm (b / _), this]; omega
    · have := ih (e - (b + 2 ^ lev b e)) (by omega) (b + 2 ^ lev b e) rfl p hp
      omega
  · rw [Nds_empty (by omega)] at hp
    cases hp
def foldR (H : List Int → List Int → List Int) (E : List Int) : List (List Int) → List Int
  | [] => E
  | [x] => x
  | x :: y :: l => H x (foldR H E (y :: l))
theorem foldR_step {H : List Int → List Int → List Int} {E x : List Int} {l : List (List Int)} (h : l ≠ []) : foldR H E (x :: l) = H x (foldR H E l) := by
  cases l with
  | nil => exact absurd rfl h
  | cons y l => rfl
def nodeH (H : List Int → List Int → List Int) (E : List Int) (L : List (List Int)) (p : Nat × Nat) : List Int := mth H E (seg L (p.2 * 2 ^ p.1) ((p.2 + 1) * 2 ^ p.1))
theorem lev_is' {b e κ : Nat} (h : b < e) (h1 : b % 2 ^ κ = 0) (h2 : b + 2 ^ κ ≤ e) (h3 : e < b + 2 ^ (κ + 1)) : lev b e = κ := by
  obtain ⟨s1, s2, s3⟩ := lev_spec b e h
  rcases Nat.lt_trichotomy (lev b e) κ with hl | hl | hl
  · have hd : 2 ^ (lev b e + 1) ∣ b := Nat.dvd_trans (Nat.pow_dvd_pow 2 hl) (Nat.dvd_of_mod_eq_zero h1)
    have := s3 (Nat.mod_eq_zero_of_dvd hd)
    have := Nat.pow_le_pow_right (n := 2) (by decide) (show lev b e + 1 ≤ κ from hl)
    omega
  · exact hl
  · have := Nat.pow_le_pow_right (n := 2) (by decide) (show κ + 1 ≤ lev b e from hl)
    omega
theorem fold_nodes (H : List Int → List Int → List Int) (E : List Int) (L : List (List Int)) (n : Nat) (hn : n ≤ L.length) : ∀ (d M B : Nat), n - B = d → B % 2 ^ M = 0 → n ≤ B + 2 ^ M → B < n → foldR H E ((Nds 0 B n).map (nodeH H E L)) = mth H E (seg L B n) := by
  intro d
  induction d using Nat.strongRecOn with
  | _ d ih =>
  intro M B hd hB hM hBn
  have hnode : ∀ κ, B % 2 ^ κ = 0 → lev B n = κ → Nds 0 B n = (κ, B / 2 ^ κ) :: Nds 0 (B + 2 ^ κ) n ∧ nodeH H E L (κ, B / 2 ^ κ) = mth H E (seg L B (B + 2 ^ κ)) := by
    intro κ h1 h2
    refine ⟨by have := Nds_step 0 B n hBn; rw [h2, Nat.zero_add] at this; exact this, ?_⟩
    have := Nat.div_add_mod B (2 ^ κ)
    rw [h1, Nat.add_zero] at this
    show mth H E (seg L (B / 2 ^ κ * 2 ^ κ) ((B / 2 ^ κ + 1) * 2 ^ κ)) = _
    rw [Nat.add_mul, Nat.one_mul, Nat.mul_comm (B / _), this]
  by_cases hfull : n = B + 2 ^ M
  · obtain ⟨e1, e2⟩ := hnode M hB (lev_is' hBn hB (by omega) (by have := Nat.two_pow_pos M; rw [Nat.pow_succ]; omega))
    rw [e1, Nds_empty (by omega), List.map_cons, List.map_nil, foldR, e2, hfull]
  · by_cases h1 : n - B = 1
    · have hB0 : B % 2 ^ 0 = 0 := by rw [Nat.pow_zero, Nat.mod_one]
      have hM1 : 0 < M := by
        rcases Nat.eq_zero_or_pos M with h | h
        · subst h; rw [Nat.pow_zero] at hfull; omega
        · exact h
      obtain ⟨e1, e2⟩ := hnode 0 hB0 (lev_is' hBn hB0 (by rw [Nat.pow_zero]; omega) (by rw [Nat.zero_add, Nat.pow_one]; omega))
      rw [e1, Nds_empty (by rw [Nat.pow_zero]; omega), List.map_cons, List.map_nil, foldR, e2, Nat.pow_zero, show B + 1 = n by omega]
    · have h2 : 2 ≤ n - B := by omega
      obtain ⟨κ, hκ⟩ : ∃ κ, psplit (n - B) = 2 ^ κ := ⟨_, rfl⟩
      have hp := Nat.two_pow_pos κ
      have hlt := psplit_lt h2
      have hle := le_psplit h2
      rw [hκ] at hlt hle
      have hpow : 2 ^ (κ + 1) = 2 * 2 ^ κ := by rw [Nat.pow_succ]; omega
      have hκM : κ < M := by
        apply Nat.lt_of_not_le
        intro h
        have := Nat.pow_le_pow_right (n := 2) (by decide) h
        omega
      have hd1 : 2 ^ (κ + 1) ∣ B := Nat.dvd_trans (Nat.pow_dvd_pow 2 hκM) (Nat.dvd_of_mod_eq_zero hB)
      have hd0 : 2 ^ κ ∣ B := Nat.dvd_trans (Nat.pow_dvd_pow 2 (by omega)) hd1
      by_cases hperf : n = B + 2 ^ (κ + 1)
      · obtain ⟨e1, e2⟩ := hnode (κ + 1) (Nat.mod_eq_zero_of_dvd hd1) (lev_is' hBn (Nat.mod_eq_zero_of_dvd hd1) (by omega) (by rw [Nat.pow_succ 2 (κ + 1)]; omega))
        rw [e1, Nds_empty (by omega), List.map_cons, List.map_nil, foldR, e2, ← hperf]
      · obtain ⟨e1, e2⟩ := hnode κ (Nat.mod_eq_zero_of_dvd hd0) (lev_is' hBn (Nat.mod_eq_zero_of_dvd hd0) (by omega) (by omega))
        have i1 := ih (n - (B + 2 ^ κ)) (by omega) κ (B + 2 ^ κ) rfl (by rw [Nat.add_mod_right]; exact Nat.mod_eq_zero_of_dvd hd0) (by omega) (by omega)
        rw [e1, List.map_cons, foldR_step (by
          intro h
          have h3 := congrArg List.length h
          rw [List.length_map] at h3
          have := Nds_nonempty (l := 0) (b := B + 2 ^ κ) (e := n) (by omega)
          rw [h3] at this
          exact absurd this (Nat.lt_irrefl 0)), i1, e2, mth_seg H E hn h2, hκ]
end Go.Proofs.YtielnphmcaecdaaDoor.Mth
namespace Go.Proofs.YtielnphmcaecdaaDoor.Hsh
open Go.RowKit Go.Proofs.YtielnphmcaecdaaDoor.Num Go.Proofs.YtielnphmcaecdaaDoor.Mth Go.Proofs.YtielnphmcaecdaaDoor.PAll Go.Proofs.YtielnphmcaecdaaDoorW.PrintWords Go.Proofs.YtielnphmcaecdaaDoorW.PrintLast
set_option linter.unusedVariables false
def empt (a0 a2 a3 : Int) : List Int := if a0 = 1 then wrd a3 (nb a2) else [2]
theorem hash_grows (a0 a2 a5 : Int) : Grows (hash a0 a2 a5) := hash_le a0 a2 a5
theorem impl_empty (a0 a1 a2 a3 a4 a5 : Int) {k : Nat} (hk : 20 ≤ k) : impl_toy_EmptyRoot.f k a0 a1 a2 a3 a4 a5 = some (empt a0 a2 a3) := by
  unfold impl_toy_EmptyRoot.f empt
  by_cases h : a0 = 1
  · rw [if_pos h, if_pos h, impl_word_eq _ _ hk, Option.bind_some]
  · rw [if_neg h, if_neg h]
theorem spec_empty (a0 a1 a2 a3 a4 a5 : Int) {k : Nat} (hk : 30 ≤ k) : spec_EmptyRoot.f k a0 a1 a2 a3 a4 a5 = some (empt a0 a2 a3) := by
  unfold spec_EmptyRoot.f spec_Terms.f empt
  rw [Option.bind_some]
  by_cases h : a0 = 1
  · rw [if_neg (by subst h; decide), if_pos h, spec_word_eq a0 a1 a2 a3 a4 a5 a3 [] (by simp) (by simp only [List.length_nil]; omega)]; rfl
  · rw [if_pos (by exact bne_iff_ne.mpr h), if_neg h]
theorem mem_bound {l : List (List Int)} {m : Nat} (h : ∀ j, j < l.length → (l.getD j []).length ≤ m) : ∀ x ∈ l, x.length ≤ m := by
  intro x hx
  obtain ⟨i, hi⟩ := List.getElem?_of_mem hx
  have := h i (List.getElem?_eq_some_iff.1 hi).1
  rw [List.getD_eq_getElem?_getD, hi] at this
  exact this
theorem spec_Root.eq (a0 a1 a2 a3 a4 a5 : Int) : ∀ (n : Nat) (L : List (List Int)), L.length = n → n ≤ 300 → (∀ x ∈ L, x.length ≤ 5000) → ∀ K, 10000000 + n ≤ K →
    spec_Root.f K a0 a1 a2 a3 a4 a5 L = some (mth (hash a0 a2 a5) (empt a0 a2 a3) L) := by
  intro n
  induction n using Nat.strongRecOn with
  | _ n ih =>
  intro L hL hn hm K hK
  obtain ⟨K, rfl⟩ : ∃ k, K = k + 1 := ⟨K - 1, by omega⟩
  rw [spec_Root.f]
  match L, hL with
  | [], hL =>
    rw [if_pos (show ((([] : List (List Int)).length : Nat) : Int) = 0 from rfl), spec_empty _ _ _ _ _ _ (by omega), Option.bind_some, mth_nil]
  | [x], hL =>
    rw [if_neg (by simp), if_pos (show ((([x] : List (List Int)).length : Nat) : Int) = 1 from rfl), if_pos (by simp), mth_one]; rfl
  | x :: y :: l, hL =>
    generalize hLL : x :: y :: l = L at *
    have h2 : 2 ≤ L.length := by rw [← hLL]; simp
    have hp := psplit_lt h2
    have hp0 := psplit_pos L.length
    have hw : IntKind.u64.wrap (L.length : Int) = (L.length : Int) := u64in (by omega)
    have t1 : (L.take (psplit L.length)).length = psplit L.length := by rw [List.length_take]; omega
    have t2 : (L.drop (psplit L.length)).length = L.length - psplit L.length := by rw [List.length_drop]
    have b1 : ∀ x ∈ L.take (psplit L.length), x.length ≤ 5000 := fun x hx => hm x (List.mem_of_mem_take hx)
    have b2 : ∀ x ∈ L.drop (psplit L.length), x.length ≤ 5000 := fun x hx => hm x (List.mem_of_mem_drop hx)
    have m1 := mth_length (hash_grows a0 a2 a5) (empt a0 a2 a3) 5000 _ _ t1 hp0 b1
    have m2 := mth_length (hash_grows a0 a2 a5) (empt a0 a2 a3) 5000 _ _ t2 (by omega) b2
    have m3 : (5000 + 9) * psplit L.length ≤ 5009 * 300 := Nat.mul_le_mul_left _ (by omega)
    have m4 : (5000 + 9) * (L.length - psplit L.length) ≤ 5009 * 300 := Nat.mul_le_mul_left _ (by omega)
    rw [if_neg (by omega), if_neg (by omega), hw, spec_split.eq L.length h2 (by omega) K (by omega), Option.bind_some, if_pos (by omega), if_pos (by omega), Int.toNat_natCast,
      ih (psplit L.length) (by omega) _ t1 (by omega) b1 K (by omega), Option.bind_some, ih (L.length - psplit L.length) (by omega) _ t2 (by omega) b2 K (by omega), Option.bind_some,
      spec_hash _ _ _ _ _ _ _ _ (by omega) (by omega) (by omega), Option.bind_some, mth_split _ _ h2]
theorem node_eq (a0 a1 a2 a3 a4 a5 : Int) (L : List (List Int)) (hn : L.length ≤ 300) (hm : ∀ x ∈ L, x.length ≤ 5000) (K : Nat) (hK : 10000000 ≤ K) : ∀ (i j : Nat), (j + 1) * 2 ^ i ≤ L.length →
    node_ (impl_toy_HashChildren.f K a0 a1 a2 a3 a4 a5) L i j = some (nodeH (hash a0 a2 a5) (empt a0 a2 a3) L (i, j)) := by
  intro i
  induction i with
  | zero =>
    intro j hj
    rw [Nat.pow_zero, Nat.mul_one] at hj
    rw [node_, List.getElem?_eq_getElem (by omega)]
    show _ = some (mth _ _ (seg L (j * 2 ^ 0) ((j + 1) * 2 ^ 0)))
    rw [Nat.pow_zero, Nat.mul_one, Nat.mul_one, seg_one (by omega), mth_one]
  | succ i ih =>
    intro j hj
    have hp := Nat.two_pow_pos i
    have e3 : (j + 1) * 2 ^ (i + 1) = (2 * j + 1 + 1) * 2 ^ i := by rw [show 2 * j + 1 + 1 = 2 * (j + 1) by omega, Nat.pow_succ]; ac_rfl
    have e4 : (2 * j + 1 + 1) * 2 ^ i = (2 * j + 1) * 2 ^ i + 2 ^ i := by rw [Nat.add_mul (2 * j + 1), Nat.one_mul]
    have e5 : (2 * j + 1) * 2 ^ i = 2 * j * 2 ^ i + 2 ^ i := by rw [Nat.add_mul, Nat.one_mul]
    have l1 : (seg L (2 * j * 2 ^ i) ((2 * j + 1) * 2 ^ i)).length = 2 ^ i := by rw [seg_length (by omega)]; omega
    have l2 : (seg L ((2 * j + 1) * 2 ^ i) ((2 * j + 1 + 1) * 2 ^ i)).length = 2 ^ i := by rw [seg_length (by omega)]; omega
    have m1 := mth_length (hash_grows a0 a2 a5) (empt a0 a2 a3) 5000 _ _ l1 hp (seg_bound hm)
    have m2 := mth_length (hash_grows a0 a2 a5) (empt a0 a2 a3) 5000 _ _ l2 hp (seg_bound hm)
    have m3 : (5000 + 9) * 2 ^ i ≤ 5009 * 300 := Nat.mul_le_mul_left _ (by omega)
    rw [node_, ih (2 * j) (by omega), Option.bind_some, ih (2 * j + 1) (by omega), Option.bind_some]
    show impl_toy_HashChildren.f K a0 a1 a2 a3 a4 a5 (mth _ _ (seg L (2 * j * 2 ^ i) ((2 * j + 1) * 2 ^ i))) (mth _ _ (seg L ((2 * j + 1) * 2 ^ i) ((2 * j + 1 + 1) * 2 ^ i))) = some (mth _ _ (seg L (j * 2 ^ (i + 1)) ((j + 1) * 2 ^ (i + 1))))
    rw [impl_hash _ _ _ _ _ _ _ _ (by omega) (by omega) (by omega), mth_perfect _ _ hj]
theorem nodeV_eq (a0 a1 a2 a3 a4 a5 : Int) (L : List (List Int)) (hn : L.length ≤ 300) (hm : ∀ x ∈ L, x.length ≤ 5000) (K : Nat) (hK : 10000000 ≤ K) (i j : Nat) (h : (j + 1) * 2 ^ i ≤ L.length) :
    nodeV (impl_toy_HashChildren.f K a0 a1 a2 a3 a4 a5) L i j = nodeH (hash a0 a2 a5) (empt a0 a2 a3) L (i, j) := by
  unfold nodeV
  rw [node_eq a0 a1 a2 a3 a4 a5 L hn hm K hK i j h]; rfl
theorem allN_true (a0 a1 a2 a3 a4 a5 : Int) (L : List (List Int)) (hn : L.length ≤ 300) (hm : ∀ x ∈ L, x.length ≤ 5000) (K : Nat) (hK : 10000000 ≤ K) : allN (impl_toy_HashChildren.f K a0 a1 a2 a3 a4 a5) L L.length = true :=
  List.all_eq_true.mpr (fun i _ => List.all_eq_true.mpr (fun j hj => by
    have := List.mem_range.mp hj
    rw [node_eq a0 a1 a2 a3 a4 a5 L hn hm K hK i j ((Nat.le_div_iff_mul_le (Nat.two_pow_pos i)).mp (by omega))]; rfl))
theorem idsIn_nodes {n m : Nat} (h : n ≤ m) : idsIn m ((Nds 0 0 n).map cnode) = true := by
  refine List.all_eq_true.mpr (fun id hid => ?_)
  obtain ⟨p, hp, rfl⟩ := List.mem_map.mp hid
  have := (Nds_in n _ 0 rfl p hp).2
  simp only [Bool.and_eq_true, decide_eq_true_eq]
  refine ⟨Int.natCast_nonneg _, Int.natCast_nonneg _, ?_⟩
  show (((p.2 : Int)).toNat + 1) * 2 ^ ((p.1 : Int)).toNat ≤ m
  rw [Int.toNat_natCast, Int.toNat_natCast]; omega
theorem foldR_eq (a0 a1 a2 a3 a4 a5 : Int) (E : List Int) (K : Nat) : ∀ (l : List (List Int)) (b : Nat), l ≠ [] → (l.map List.length).sum + 9 * l.length ≤ b → b ≤ 1000000000 → 2000000100 ≤ K → foldR_ (impl_toy_HashChildren.f K a0 a1 a2 a3 a4 a5) l = some (foldR (hash a0 a2 a5) E l) ∧ (foldR (hash a0 a2 a5) E l).length ≤ b
  | [], _, h, _, _, _ => absurd rfl h
  | [x], b, _, hb, _, _ => ⟨rfl, by simp at hb; show x.length ≤ b; omega⟩
  | x :: y :: l, b, _, hb, hbb, hK => by
    have hb' : x.length + 9 + (((y :: l).map List.length).sum + 9 * (y :: l).length) ≤ b := by
      rw [List.map_cons, List.sum_cons, List.length_cons] at hb; omega
    obtain ⟨h1, h2⟩ := foldR_eq a0 a1 a2 a3 a4 a5 E K (y :: l) (b - x.length - 9) (by simp) (by omega) (by omega) hK
    have h3 := hash_le a0 a2 a5 x (foldR (hash a0 a2 a5) E (y :: l))
    rw [foldR_, h1, Option.bind_some, impl_hash _ _ _ _ _ _ _ _ (by omega) (by omega) (by omega)]
    exact ⟨rfl, by show (hash a0 a2 a5 x (foldR (hash a0 a2 a5) E (y :: l))).length ≤ b; omega⟩
theorem sum_le (m : Nat) : ∀ (l : List (List Int)), (∀ x ∈ l, x.length ≤ m) → (l.map List.length).sum ≤ m * l.length
  | [], _ => by simp
  | x :: l, h => by
    have h1 := sum_le m l (fun y hy => h y (List.mem_cons_of_mem _ hy))
    have h2 := h x List.mem_cons_self
    rw [List.map_cons, List.sum_cons, List.length_cons, Nat.mul_succ]; omega
theorem impl_TreeRoot.eq (a0 a1 a2 a3 a4 a5 : Int) (L : List (List Int)) (hn : L.length ≤ 300) (hm : ∀ x ∈ L, x.length ≤ 5000) (n : Nat) (hnL : n ≤ L.length) (K : Nat) (hK : 3000000000 ≤ K) :
    impl_TreeRoot.f (K + 1) a0 a1 a2 a3 a4 a5 L (n : Int) = some (mth (hash a0 a2 a5) (empt a0 a2 a3) (L.take n), true) := by
  have hw : IntKind.u64.wrap (L.length : Int) = (L.length : Int) := u64in (by omega)
  unfold impl_TreeRoot.f
  rw [hw, if_neg (by omega), if_pos (by omega), texts_eq L (by omega) (fun j hj => by
    have := hm (L.getD j []) (by rw [List.getD_eq_getElem?_getD, List.getElem?_eq_getElem hj]; exact List.getElem_mem hj)
    omega) (by omega), Option.bind_some, if_pos ⟨by omega, allN_true a0 a1 a2 a3 a4 a5 L hn hm (K + 1) (by omega)⟩]
  rcases Nat.eq_zero_or_pos n with h0 | h0
  · subst h0
    rw [if_pos (show ((0 : Nat) : Int) = 0 from rfl), impl_empty _ _ _ _ _ _ (by omega), Option.bind_some, List.take_zero, mth_nil]
  · have hlen := Nds_len 0 0 n 64 (by omega)
    rw [if_neg (by omega), show (0 : Int) = ((0 : Nat) : Int) from rfl, compact_RangeNodes.eq 0 n (by omega) (by omega) [] (by simp) (K + 1) (by omega), Option.bind_some, List.nil_append, if_pos ⟨by rw [List.length_map]; omega, idsIn_nodes hnL⟩, List.map_map]
    have e : (Nds 0 0 n).map ((fun id : S99 => nodeV (impl_toy_HashChildren.f (K + 1) a0 a1 a2 a3 a4 a5) L id.f0.toNat id.f1.toNat) ∘ cnode) = (Nds 0 0 n).map (nodeH (hash a0 a2 a5) (empt a0 a2 a3) L) := by
      refine List.map_congr_left (fun p hp => ?_)
      have h1 := (Nds_in n _ 0 rfl p hp).2
      show nodeV _ L ((p.1 : Int)).toNat ((p.2 : Int)).toNat = _
      rw [Int.toNat_natCast, Int.toNat_natCast]
      exact nodeV_eq a0 a1 a2 a3 a4 a5 L hn hm (K + 1) (by omega) p.1 p.2 (by omega)
    have hne : (Nds 0 0 n).map (nodeH (hash a0 a2 a5) (empt a0 a2 a3) L) ≠ [] := by
      intro h
      have h3 := congrArg List.length h
      rw [List.length_map] at h3
      have := Nds_nonempty (l := 0) (b := 0) (e := n) h0
      rw [h3] at this
      exact absurd this (Nat.lt_irrefl 0)
    have hbd : ∀ x ∈ (Nds 0 0 n).map (nodeH (hash a0 a2 a5) (empt a0 a2 a3) L), x.length ≤ 5009 * 300 := by
      intro x hx
      obtain ⟨p, hp, rfl⟩ := List.mem_map.mp hx
      obtain ⟨_, h1⟩ := Nds_in n _ 0 rfl p hp
      have hpp := Nat.two_pow_pos p.1
      have e1 : (p.2 + 1) * 2 ^ p.1 = p.2 * 2 ^ p.1 + 2 ^ p.1 := by rw [Nat.add_mul, Nat.one_mul]
      have l1 : (seg L (p.2 * 2 ^ p.1) ((p.2 + 1) * 2 ^ p.1)).length = 2 ^ p.1 := by rw [seg_length (by omega)]; omega
      have m1 := mth_length (hash_grows a0 a2 a5) (empt a0 a2 a3) 5000 _ _ l1 hpp (seg_bound hm)
      have m3 : (5000 + 9) * 2 ^ p.1 ≤ 5009 * 300 := Nat.mul_le_mul_left _ (by omega)
      show (mth _ _ _).length ≤ _
      omega
    have hs := sum_le _ _ hbd
    have hl2 : ((Nds 0 0 n).map (nodeH (hash a0 a2 a5) (empt a0 a2 a3) L)).length ≤ 128 := by rw [List.length_map]; omega
    have hs2 : 5009 * 300 * ((Nds 0 0 n).map (nodeH (hash a0 a2 a5) (empt a0 a2 a3) L)).length ≤ 5009 * 300 * 128 := Nat.mul_le_mul_left _ hl2
    have hf := (foldR_eq a0 a1 a2 a3 a4 a5 (empt a0 a2 a3) (K + 1) _ 200000000 hne (by omega) (by omega) (by omega)).1
    rw [e, hf, Option.bind_some, fold_nodes (hash a0 a2 a5) (empt a0 a2 a3) L n hnL _ n 0 rfl (Nat.zero_mod _) (by have := Nat.lt_two_pow_self (n := n); omega) h0, seg_zero]
end Go.Proofs.YtielnphmcaecdaaDoor.Hsh
namespace Go.Proofs.YtielnphmcaecdaaDoor.PAll
open Go.RowKit Go.Proofs.YtielnphmcaecdaaDoorW.PrintWords Go.Proofs.YtielnphmcaecdaaDoorW.PrintLast Go.Proofs.YtielnphmcaecdaaDoorW.PrintMore
attribute [local go_sem] max2_int min2_int max_two min_two max_three min_three max_four min_four   -- for this text's walks alone
set_option linter.unusedVariables false
set_option linter.unusedSimpArgs false
def spec_proofIn.f : Nat → Int → Int → Int → Bool → Option ((List (S53)))
  | 0, _, _, _, _ => none
  | k + 1, a0, a1_0, a1_1, a2 => if a0 = a1_1 then (if a2 = true then (some ([] : List (S53))) else (some (([(⟨a1_0, a1_1⟩ : S53)] : List (S53))))) else ((spec_split.f k (IntKind.u64.wrap (a1_1 - a1_0))).bind fun t336 => (if a0 ≤ (IntKind.u64.wrap (a1_0 + t336)) then ((spec_proofIn.f k a0 a1_0 (IntKind.u64.wrap (a1_0 + t336)) a2).bind fun t337 => ((some (([(⟨IntKind.u64.wrap (a1_0 + t336), a1_1⟩ : S53)] : List (S53)) : List (S53))).bind fun y340 => (if t337.length + y340.length < 8796093022208 then (some (t337 ++ y340)) else (none)))) else ((spec_proofIn.f k a0 (IntKind.u64.wrap (a1_0 + t336)) a1_1 false).bind fun t346 => ((some (([(⟨a1_0, IntKind.u64.wrap (a1_0 + t336)⟩ : S53)] : List (S53)) : List (S53))).bind fun y349 => (if t346.length + y349.length < 8796093022208 then (some (t346 ++ y349)) else (none))))))
theorem spec_proofIn.mono_l : ∀ k, (∀ y0 y1 y2 y3, LeO (spec_proofIn.f k y0 y1 y2 y3) (spec_proofIn.f (k + 1) y0 y1 y2 y3))
  | 0 => fun _ _ _ _ r h => by simp [spec_proofIn.f] at h
  | k + 1 => by
    have ih0 := spec_proofIn.mono_l k
    · intro y0 y1 y2 y3
      unfold spec_proofIn.f
      repeat' first
      | (with_reducible exact ih0 _ _ _ _)
      | (with_reducible exact spec_split.mono _ _)
      | (with_reducible exact LeO.refl _)
      | (with_reducible exact LeO.none _)
      | (with_reducible refine LeO.ite ?_ ?_)
      | (with_reducible refine LeO.bind ?_ (fun _ => ?_))
      | exact ih0 _ _ _ _
      | exact spec_split.mono _ _
      | exact LeO.none _
      | refine LeO.ite ?_ ?_
      | refine LeO.bind ?_ (fun _ => ?_)
theorem spec_proofIn.mono : ∀ a0 a1 a2 a3 k, LeO (spec_proofIn.f k a0 a1 a2 a3) (spec_proofIn.f (k + 1) a0 a1 a2 a3) := by
  intro a0 a1 a2 a3 k
  have ih0 := spec_proofIn.mono_l k
  exact ih0 a0 a1 a2 a3
def spec_ProofParts.f (k : Nat) (a0 : Int) (a1 : Int) : Option ((List (S53))) := (spec_proofIn.f k a0 0 a1 true).bind fun t355 => (some t355)
theorem spec_ProofParts.mono : ∀ a0 a1 k, LeO (spec_ProofParts.f k a0 a1) (spec_ProofParts.f (k + 1) a0 a1) := by
  intro a0 a1 k
  unfold spec_ProofParts.f
  repeat' first
      | (with_reducible exact spec_proofIn.mono _ _ _ _ _)
      | (with_reducible exact LeO.refl _)
      | (with_reducible exact LeO.none _)
      | (with_reducible refine LeO.ite ?_ ?_)
      | (with_reducible refine LeO.bind ?_ (fun _ => ?_))
      | exact spec_proofIn.mono _ _ _ _ _
      | exact LeO.none _
      | refine LeO.ite ?_ ?_
      | refine LeO.bind ?_ (fun _ => ?_)
end Go.Proofs.YtielnphmcaecdaaDoor.PAll
namespace Go.Proofs.YtielnphmcaecdaaDoor.PAll
open Go.RowKit Go.Proofs.YtielnphmcaecdaaDoorW.PrintWords Go.Proofs.YtielnphmcaecdaaDoorW.PrintLast Go.Proofs.YtielnphmcaecdaaDoorW.PrintMore
attribute [local go_sem] max2_int min2_int max_two min_two max_three min_three max_four min_four   -- for this text's walks alone
set_option linter.unusedVariables false
set_option linter.unusedSimpArgs false
def spec_last.f (a0 : Int) : Option (Int × Int) := some (Go.bits .and .u64 a0 (IntKind.u64.wrap (a0 - 1)), a0)
mutual
def spec_ConsistencyProof.j0 : Nat → Int → Int → Bool → Option ((List (S49)) × Int × Int × Int × Int)
  | 0, _, _, _ => none
  | k + 1, x0, x1, x15 => if x15 = true then (some (([] : List (S49)), 0, 0, 0, 0)) else ((spec_last.f x0).bind fun bt410 => ((spec_ProofParts.f k x0 x1).bind fun t412 => (if bt410.1 > 0 then ((spec_NodeOf.f k bt410.1 bt410.2).bind fun bt416 => (if 1 ≤ (t412.length : Int) then (spec_ConsistencyProof.j1 k x1 (t412.drop (1 : Int).toNat) (([(⟨bt416.1, bt416.2⟩ : S49)] : List (S49))) bt410.1 bt410.2) else (none))) else (spec_ConsistencyProof.j1 k x1 t412 ([] : List (S49)) bt410.1 bt410.2))))
def spec_ConsistencyProof.j1 : Nat → Int → List (S53) → List (S49) → Int → Int → Option ((List (S49)) × Int × Int × Int × Int)
  | 0, _, _, _, _, _ => none
  | k + 1, x1, x6, x7, x416000, x416001 => (spec_proofOf.f k x416000 x416001 x6).bind fun bt424 => (if bt424.2.2.2.2 > 0 then (if x7.length + bt424.1.length < 8796093022208 then ((spec_NodeOf.f k x416000 x416001).bind fun bt435 => ((spec_fork.f k bt435.1 bt435.2 x1).bind fun bt437 => (some ((x7 ++ bt424.1), bt437.1, bt437.2, wrap64 (bt424.2.2.2.1 + (x7.length : Int)), wrap64 (bt424.2.2.2.2 + (x7.length : Int)))))) else (none)) else (if x7.length + bt424.1.length < 8796093022208 then ((spec_NodeOf.f k x416000 x416001).bind fun bt442 => ((spec_fork.f k bt442.1 bt442.2 x1).bind fun bt444 => (some ((x7 ++ bt424.1), bt444.1, bt444.2, bt424.2.2.2.1, bt424.2.2.2.2)))) else (none)))
end
def spec_ConsistencyProof.f (k : Nat) (a0 : Int) (a1 : Int) : Option ((List (S49)) × Int × Int × Int × Int) := if a0 = 0 then (spec_ConsistencyProof.j0 k a0 a1 true) else (spec_ConsistencyProof.j0 k a0 a1 (a0 == a1))
theorem spec_ConsistencyProof.mono_l : ∀ k, (∀ y0 y1 y2, LeO (spec_ConsistencyProof.j0 k y0 y1 y2) (spec_ConsistencyProof.j0 (k + 1) y0 y1 y2)) ∧ (∀ y0 y1 y2 y3 y4, LeO (spec_ConsistencyProof.j1 k y0 y1 y2 y3 y4) (spec_ConsistencyProof.j1 (k + 1) y0 y1 y2 y3 y4))
  | 0 => ⟨fun _ _ _ r h => by simp [spec_ConsistencyProof.j0] at h, fun _ _ _ _ _ r h => by simp [spec_ConsistencyProof.j1] at h⟩
  | k + 1 => by
    obtain ⟨ih0, ih1⟩ := spec_ConsistencyProof.mono_l k
    refine ⟨?_, ?_⟩
    · intro y0 y1 y2
      unfold spec_ConsistencyProof.j0
      repeat' first
      | (with_reducible exact ih0 _ _ _)
      | (with_reducible exact ih1 _ _ _ _ _)
      | (with_reducible exact spec_NodeOf.mono _ _ _)
      | (with_reducible exact spec_ProofParts.mono _ _ _)
      | (with_reducible exact spec_fork.mono _ _ _ _)
      | (with_reducible exact spec_proofOf.mono _ _ _ _)
      | (with_reducible exact LeO.refl _)
      | (with_reducible exact LeO.none _)
      | (with_reducible refine LeO.ite ?_ ?_)
      | (with_reducible refine LeO.bind ?_ (fun _ => ?_))
      | exact ih0 _ _ _
      | exact ih1 _ _ _ _ _
      | exact spec_NodeOf.mono _ _ _
      | exact spec_ProofParts.mono _ _ _
      | exact spec_fork.mono _ _ _ _
      | exact spec_proofOf.mono _ _ _ _
      | exact LeO.none _
      | refine LeO.ite ?_ ?_
      | refine LeO.bind ?_ (fun _ => ?_)
    · intro y0 y1 y2 y3 y4
      unfold spec_ConsistencyProof.j1
      repeat' first
      | (with_reducible exact ih0 _ _ _)
      | (with_reducible exact ih1 _ _ _ _ _)
      | (with_reducible exact spec_NodeOf.mono _ _ _)
      | (with_reducible exact spec_ProofParts.mono _ _ _)
      | (with_reducible exact spec_fork.mono _ _ _ _)
      | (with_reducible exact spec_proofOf.mono _ _ _ _)
      | (with_reducible exact LeO.refl _)
      | (with_reducible exact LeO.none _)
      | (with_reducible refine LeO.ite ?_ ?_)
      | (with_reducible refine LeO.bind ?_ (fun _ => ?_))
      | exact ih0 _ _ _
      | exact ih1 _ _ _ _ _
      | exact spec_NodeOf.mono _ _ _
      | exact spec_ProofParts.mono _ _ _
      | exact spec_fork.mono _ _ _ _
      | exact spec_proofOf.mono _ _ _ _
      | exact LeO.none _
      | refine LeO.ite ?_ ?_
      | refine LeO.bind ?_ (fun _ => ?_)
theorem spec_ConsistencyProof.mono : ∀ a0 a1 k, LeO (spec_ConsistencyProof.f k a0 a1) (spec_ConsistencyProof.f (k + 1) a0 a1) := by
  intro a0 a1 k
  obtain ⟨ih0, ih1⟩ := spec_ConsistencyProof.mono_l k
  unfold spec_ConsistencyProof.f
  repeat' first
      | (with_reducible exact ih0 _ _ _)
      | (with_reducible exact ih1 _ _ _ _ _)
      | (with_reducible exact spec_NodeOf.mono _ _ _)
      | (with_reducible exact spec_ProofParts.mono _ _ _)
      | (with_reducible exact spec_fork.mono _ _ _ _)
      | (with_reducible exact spec_proofOf.mono _ _ _ _)
      | (with_reducible exact LeO.refl _)
      | (with_reducible exact LeO.none _)
      | (with_reducible refine LeO.ite ?_ ?_)
      | (with_reducible refine LeO.bind ?_ (fun _ => ?_))
      | exact ih0 _ _ _
      | exact ih1 _ _ _ _ _
      | exact spec_NodeOf.mono _ _ _
      | exact spec_ProofParts.mono _ _ _
      | exact spec_fork.mono _ _ _ _
      | exact spec_proofOf.mono _ _ _ _
      | exact LeO.none _
      | refine LeO.ite ?_ ?_
      | refine LeO.bind ?_ (fun _ => ?_)
end Go.Proofs.YtielnphmcaecdaaDoor.PAll
namespace Go.Proofs.YtielnphmcaecdaaDoor.PAll
open Go.RowKit Go.Proofs.YtielnphmcaecdaaDoorW.PrintWords Go.Proofs.YtielnphmcaecdaaDoorW.PrintLast Go.Proofs.YtielnphmcaecdaaDoorW.PrintMore
attribute [local go_sem] max2_int min2_int max_two min_two max_three min_three max_four min_four   -- for this text's walks alone
set_option linter.unusedVariables false
set_option linter.unusedSimpArgs false
theorem eqA49 (d : Nat) (w : World) (x0 y0 : Int) (x1 y1 : Int) :
    (Op.equalIn (d + 2) 49 (.agg #[.int .u64 x0, .int .u64 x1]) (.agg #[.int .u64 y0, .int .u64 y1])).run Tryd.prog w = .ok (x0 == y0 && (x1 == y1)) w := by
  refine eqA_of Tryd.underlying49 (by kernel_rfl) ?_
  refine eqf_cons (by rfl) (by go_simp; rfl) (by go_simp; rfl) (by go_simp) ?_
  exact eqf_last (by rfl) (by go_simp; rfl) (by go_simp; rfl) (by go_simp)
end Go.Proofs.YtielnphmcaecdaaDoor.PAll
namespace Go.Proofs.YtielnphmcaecdaaDoor.PAll
open Go.IntWalk Go.RowKit Go.Proofs.YtielnphmcaecdaaDoorW.PrintWords Go.Proofs.YtielnphmcaecdaaDoorW.PrintLast Go.Proofs.YtielnphmcaecdaaDoorW.PrintMore
set_option linter.unusedVariables false
def sameL : List (List Int) → List (List Int) → Bool
  | [], [] => true
  | x :: xs, y :: ys => if ((strOfNums x).toList == (strOfNums y).toList) = true then sameL xs ys else false
  | _, _ => false
def spec_Same.f (_ : Nat) (l m : List (List Int)) : Option Bool := some (sameL l m)
theorem spec_Same.mono : ∀ l m k, LeO (spec_Same.f k l m) (spec_Same.f (k + 1) l m) := fun _ _ _ => LeO.refl _
end Go.Proofs.YtielnphmcaecdaaDoor.PAll
namespace Go.Proofs.YtielnphmcaecdaaDoor.PAll
open Go.RowKit Go.Proofs.YtielnphmcaecdaaDoorW.PrintWords Go.Proofs.YtielnphmcaecdaaDoorW.PrintLast Go.Proofs.YtielnphmcaecdaaDoorW.PrintMore
attribute [local go_sem] max2_int min2_int max_two min_two max_three min_three max_four min_four   -- for this text's walks alone
set_option linter.unusedVariables false
set_option linter.unusedSimpArgs false
attribute [local go_sem high] eqA49
def spec_SameRange.f (k : Nat) (a0_0 : Int) (a0_1 : Int) (l0_2 : List (List Int)) (a1_0 : Int) (a1_1 : Int) (l1_2 : List (List Int)) : Option (Bool) := if a0_0 = a1_0 then (if a0_1 = a1_1 then ((spec_Same.f k l0_2 l1_2).bind fun t325 => (some t325)) else (some false)) else (some false)
theorem spec_SameRange.mono : ∀ a0 a1 a2 a3 a4 a5 k, LeO (spec_SameRange.f k a0 a1 a2 a3 a4 a5) (spec_SameRange.f (k + 1) a0 a1 a2 a3 a4 a5) := by
  intro a0 a1 a2 a3 a4 a5 k
  unfold spec_SameRange.f
  repeat' first
      | (with_reducible exact spec_Same.mono _ _ _)
      | (with_reducible exact LeO.refl _)
      | (with_reducible exact LeO.none _)
      | (with_reducible refine LeO.ite ?_ ?_)
      | (with_reducible refine LeO.bind ?_ (fun _ => ?_))
      | exact spec_Same.mono _ _ _
      | exact LeO.none _
      | refine LeO.ite ?_ ?_
      | refine LeO.bind ?_ (fun _ => ?_)
def spec_Leaves.f (a0_0 : Int) (a0_1 : Int) : Option (Int × Int) := if 0 ≤ a0_0 then (some (shl .u64 a0_1 a0_0, shl .u64 (IntKind.u64.wrap (a0_1 + 1)) a0_0)) else (none)
end Go.Proofs.YtielnphmcaecdaaDoor.PAll
namespace Go.Proofs.YtielnphmcaecdaaDoor.PAll
open Go.RowKit Go.Proofs.YtielnphmcaecdaaDoorW.PrintWords Go.Proofs.YtielnphmcaecdaaDoorW.PrintLast Go.Proofs.YtielnphmcaecdaaDoorW.PrintMore
attribute [local go_sem] max2_int min2_int max_two min_two max_three min_three max_four min_four   -- for this text's walks alone
set_option linter.unusedVariables false
set_option linter.unusedSimpArgs false
def spec_RootOf.f (k : Nat) (a0_0 : Int) (a0_1 : Int) (a0_2 : Int) (a0_3 : Int) (a0_4 : Int) (a0_5 : Int) (l1 : List (List Int)) (a2_0 : Int) (a2_1 : Int) : Option (List Int) := if 0 ≤ a2_0 then (if a2_0 ≤ a2_1 then (if a2_1 ≤ (l1.length : Int) then ((spec_Root.f k a0_0 a0_1 a0_2 a0_3 a0_4 a0_5 ((l1.take (a2_1 : Int).toNat).drop (a2_0 : Int).toNat)).bind fun t490 => (some t490)) else (none)) else (none)) else (none)
theorem spec_RootOf.mono : ∀ a0 a1 a2 a3 a4 a5 a6 a7 a8 k, LeO (spec_RootOf.f k a0 a1 a2 a3 a4 a5 a6 a7 a8) (spec_RootOf.f (k + 1) a0 a1 a2 a3 a4 a5 a6 a7 a8) := by
  intro a0 a1 a2 a3 a4 a5 a6 a7 a8 k
  unfold spec_RootOf.f
  repeat' first
      | (with_reducible exact spec_Root.mono _ _ _ _ _ _ _ _)
      | (with_reducible exact LeO.refl _)
      | (with_reducible exact LeO.none _)
      | (with_reducible refine LeO.ite ?_ ?_)
      | (with_reducible refine LeO.bind ?_ (fun _ => ?_))
      | exact spec_Root.mono _ _ _ _ _ _ _ _
      | exact LeO.none _
      | refine LeO.ite ?_ ?_
      | refine LeO.bind ?_ (fun _ => ?_)
def spec_NodeHash.f (k : Nat) (a0_0 : Int) (a0_1 : Int) (a0_2 : Int) (a0_3 : Int) (a0_4 : Int) (a0_5 : Int) (l1 : List (List Int)) (a2_0 : Int) (a2_1 : Int) : Option (List Int) := (spec_Leaves.f a2_0 a2_1).bind fun bt495 => ((spec_RootOf.f k a0_0 a0_1 a0_2 a0_3 a0_4 a0_5 l1 bt495.1 bt495.2).bind fun t497 => (some t497))
theorem spec_NodeHash.mono : ∀ a0 a1 a2 a3 a4 a5 a6 a7 a8 k, LeO (spec_NodeHash.f k a0 a1 a2 a3 a4 a5 a6 a7 a8) (spec_NodeHash.f (k + 1) a0 a1 a2 a3 a4 a5 a6 a7 a8) := by
  intro a0 a1 a2 a3 a4 a5 a6 a7 a8 k
  unfold spec_NodeHash.f
  repeat' first
      | (with_reducible exact spec_RootOf.mono _ _ _ _ _ _ _ _ _ _)
      | (with_reducible exact LeO.refl _)
      | (with_reducible exact LeO.none _)
      | (with_reducible refine LeO.ite ?_ ?_)
      | (with_reducible refine LeO.bind ?_ (fun _ => ?_))
      | exact spec_RootOf.mono _ _ _ _ _ _ _ _ _ _
      | exact LeO.none _
      | refine LeO.ite ?_ ?_
      | refine LeO.bind ?_ (fun _ => ?_)
def spec_Path.l0 : Nat → List (List Int) → List (List Int) → List (S53) → Int → Int → Int → Int → Int → Int → Int → Int → Option ((List (List Int)))
  | 0, _, _, _, _, _, _, _, _, _, _, _ => none
  | k + 1, x1, x7, x14, x15, x16, x501000, x501001, x501002, x501003, x501004, x501005 => if x16 < x15 then (if 0 ≤ x16 then (if x16 < (x14.length : Int) then ((spec_RootOf.f k x501000 x501001 x501002 x501003 x501004 x501005 x1 ((rd_T53 x14 x16).f0) ((rd_T53 x14 x16).f1)).bind fun t506 => (if x7.length < 5864062014805 then (spec_Path.l0 k x1 (x7 ++ [t506]) x14 x15 (wrap64 (x16 + 1)) x501000 x501001 x501002 x501003 x501004 x501005) else (none))) else (none)) else (none)) else (some x7)
def spec_Path.f (k : Nat) (a0_0 : Int) (a0_1 : Int) (a0_2 : Int) (a0_3 : Int) (a0_4 : Int) (a0_5 : Int) (l1 : List (List Int)) (a2 : Int) : Option ((List (List Int))) := (spec_PathParts.f k a2 (IntKind.u64.wrap ((l1.length : Int)))).bind fun t501 => (spec_Path.l0 k l1 ([] : List (List Int)) t501 (t501.length : Int) 0 a0_0 a0_1 a0_2 a0_3 a0_4 a0_5)
theorem spec_Path.mono_l : ∀ k, (∀ y0 y1 y2 y3 y4 y5 y6 y7 y8 y9 y10, LeO (spec_Path.l0 k y0 y1 y2 y3 y4 y5 y6 y7 y8 y9 y10) (spec_Path.l0 (k + 1) y0 y1 y2 y3 y4 y5 y6 y7 y8 y9 y10))
  | 0 => fun _ _ _ _ _ _ _ _ _ _ _ r h => by simp [spec_Path.l0] at h
  | k + 1 => by
    have ih0 := spec_Path.mono_l k
    · intro y0 y1 y2 y3 y4 y5 y6 y7 y8 y9 y10
      unfold spec_Path.l0
      repeat' first
      | (with_reducible exact ih0 _ _ _ _ _ _ _ _ _ _ _)
      | (with_reducible exact spec_PathParts.mono _ _ _)
      | (with_reducible exact spec_RootOf.mono _ _ _ _ _ _ _ _ _ _)
      | (with_reducible exact LeO.refl _)
      | (with_reducible exact LeO.none _)
      | (with_reducible refine LeO.ite ?_ ?_)
      | (with_reducible refine LeO.bind ?_ (fun _ => ?_))
      | exact ih0 _ _ _ _ _ _ _ _ _ _ _
      | exact spec_PathParts.mono _ _ _
      | exact spec_RootOf.mono _ _ _ _ _ _ _ _ _ _
      | exact LeO.none _
      | refine LeO.ite ?_ ?_
      | refine LeO.bind ?_ (fun _ => ?_)
theorem spec_Path.mono : ∀ a0 a1 a2 a3 a4 a5 a6 a7 k, LeO (spec_Path.f k a0 a1 a2 a3 a4 a5 a6 a7) (spec_Path.f (k + 1) a0 a1 a2 a3 a4 a5 a6 a7) := by
  intro a0 a1 a2 a3 a4 a5 a6 a7 k
  have ih0 := spec_Path.mono_l k
  unfold spec_Path.f
  repeat' first
      | (with_reducible exact ih0 _ _ _ _ _ _ _ _ _ _ _)
      | (with_reducible exact spec_PathParts.mono _ _ _)
      | (with_reducible exact spec_RootOf.mono _ _ _ _ _ _ _ _ _ _)
      | (with_reducible exact LeO.refl _)
      | (with_reducible exact LeO.none _)
      | (with_reducible refine LeO.ite ?_ ?_)
      | (with_reducible refine LeO.bind ?_ (fun _ => ?_))
      | exact ih0 _ _ _ _ _ _ _ _ _ _ _
      | exact spec_PathParts.mono _ _ _
      | exact spec_RootOf.mono _ _ _ _ _ _ _ _ _ _
      | exact LeO.none _
      | refine LeO.ite ?_ ?_
      | refine LeO.bind ?_ (fun _ => ?_)
def spec_Proof.l0 : Nat → List (List Int) → List (List Int) → List (S53) → Int → Int → Int → Int → Int → Int → Int → Int → Option ((List (List Int)))
  | 0, _, _, _, _, _, _, _, _, _, _, _ => none
  | k + 1, x1, x7, x14, x15, x16, x513000, x513001, x513002, x513003, x513004, x513005 => if x16 < x15 then (if 0 ≤ x16 then (if x16 < (x14.length : Int) then ((spec_RootOf.f k x513000 x513001 x513002 x513003 x513004 x513005 x1 ((rd_T53 x14 x16).f0) ((rd_T53 x14 x16).f1)).bind fun t518 => (if x7.length < 5864062014805 then (spec_Proof.l0 k x1 (x7 ++ [t518]) x14 x15 (wrap64 (x16 + 1)) x513000 x513001 x513002 x513003 x513004 x513005) else (none))) else (none)) else (none)) else (some x7)
def spec_Proof.f (k : Nat) (a0_0 : Int) (a0_1 : Int) (a0_2 : Int) (a0_3 : Int) (a0_4 : Int) (a0_5 : Int) (l1 : List (List Int)) (a2 : Int) : Option ((List (List Int))) := (spec_ProofParts.f k a2 (IntKind.u64.wrap ((l1.length : Int)))).bind fun t513 => (spec_Proof.l0 k l1 ([] : List (List Int)) t513 (t513.length : Int) 0 a0_0 a0_1 a0_2 a0_3 a0_4 a0_5)
theorem spec_Proof.mono_l : ∀ k, (∀ y0 y1 y2 y3 y4 y5 y6 y7 y8 y9 y10, LeO (spec_Proof.l0 k y0 y1 y2 y3 y4 y5 y6 y7 y8 y9 y10) (spec_Proof.l0 (k + 1) y0 y1 y2 y3 y4 y5 y6 y7 y8 y9 y10))
  | 0 => fun _ _ _ _ _ _ _ _ _ _ _ r h => by simp [spec_Proof.l0] at h
  | k + 1 => by
    have ih0 := spec_Proof.mono_l k
    · intro y0 y1 y2 y3 y4 y5 y6 y7 y8 y9 y10
      unfold spec_Proof.l0
      repeat' first
      | (with_reducible exact ih0 _ _ _ _ _ _ _ _ _ _ _)
      | (with_reducible exact spec_ProofParts.mono _ _ _)
      | (with_reducible exact spec_RootOf.mono _ _ _ _ _ _ _ _ _ _)
      | (with_reducible exact LeO.refl _)
      | (with_reducible exact LeO.none _)
      | (with_reducible refine LeO.ite ?_ ?_)
      | (with_reducible refine LeO.bind ?_ (fun _ => ?_))
      | exact ih0 _ _ _ _ _ _ _ _ _ _ _
      | exact spec_ProofParts.mono _ _ _
      | exact spec_RootOf.mono _ _ _ _ _ _ _ _ _ _
      | exact LeO.none _
      | refine LeO.ite ?_ ?_
      | refine LeO.bind ?_ (fun _ => ?_)
theorem spec_Proof.mono : ∀ a0 a1 a2 a3 a4 a5 a6 a7 k, LeO (spec_Proof.f k a0 a1 a2 a3 a4 a5 a6 a7) (spec_Proof.f (k + 1) a0 a1 a2 a3 a4 a5 a6 a7) := by
  intro a0 a1 a2 a3 a4 a5 a6 a7 k
  have ih0 := spec_Proof.mono_l k
  unfold spec_Proof.f
  repeat' first
      | (with_reducible exact ih0 _ _ _ _ _ _ _ _ _ _ _)
      | (with_reducible exact spec_ProofParts.mono _ _ _)
      | (with_reducible exact spec_RootOf.mono _ _ _ _ _ _ _ _ _ _)
      | (with_reducible exact LeO.refl _)
      | (with_reducible exact LeO.none _)
      | (with_reducible refine LeO.ite ?_ ?_)
      | (with_reducible refine LeO.bind ?_ (fun _ => ?_))
      | exact ih0 _ _ _ _ _ _ _ _ _ _ _
      | exact spec_ProofParts.mono _ _ _
      | exact spec_RootOf.mono _ _ _ _ _ _ _ _ _ _
      | exact LeO.none _
      | refine LeO.ite ?_ ?_
      | refine LeO.bind ?_ (fun _ => ?_)
end Go.Proofs.YtielnphmcaecdaaDoor.PAll
namespace Go.Proofs.YtielnphmcaecdaaDoor.Hsh
open Go.RowKit Go.Proofs.YtielnphmcaecdaaDoor.Num Go.Proofs.YtielnphmcaecdaaDoor.Mth Go.Proofs.YtielnphmcaecdaaDoor.PAll Go.Proofs.YtielnphmcaecdaaDoorW.PrintWords Go.Proofs.YtielnphmcaecdaaDoorW.PrintLast
set_option linter.unusedVariables false
set_option linter.unusedSimpArgs false
theorem bord_foldR (H : List Int → List Int → List Int) (E : List Int) : ∀ (xs : List (List Int)) (x : List Int), bord H xs.reverse x = foldR H E (xs ++ [x])
  | [], x => rfl
  | y :: ys, x => by
    rw [List.reverse_cons, bord_append, bord_foldR H E ys x]
    show H y _ = _
    rw [List.cons_append, foldR_step (by simp)]
def prtV (H : List Int → List Int → List Int) (E : List Int) (val : Nat × Nat → List Int) (p : Nat × Nat) : List Int := foldR H E ((Nds 0 p.1 p.2).map val)
theorem Nds_one (l c : Nat) : Nds 0 (c * 2 ^ l) ((c + 1) * 2 ^ l) = [(l, c)] := by
  rw [Nds_shift, Nds_step l c (c + 1) (by omega), lev_no (by omega), Nat.pow_zero, Nat.div_one, Nds_empty (by omega)]; rfl
theorem prtV_lvs (H : List Int → List Int → List Int) (E : List Int) (val : Nat × Nat → List Int) (q : Nat × Nat) : prtV H E val (lvs q) = val q := by
  obtain ⟨l, c⟩ := q
  unfold prtV lvs
  dsimp only
  rw [Nds_one]; rfl
theorem map_lvs (H : List Int → List Int → List Int) (E : List Int) (val : Nat × Nat → List Int) (l : List (Nat × Nat)) : (l.map lvs).map (prtV H E val) = l.map val := by
  rw [List.map_map]
  exact List.map_congr_left (fun q _ => prtV_lvs H E val q)
theorem folded_mid (H : List Int → List Int → List Int) (E : List Int) (A G : List (List Int)) (xs : List (List Int)) (hx : xs ≠ []) : folded H A.length (A.length + xs.length) (A ++ xs.reverse ++ G) = A ++ [foldR H E xs] ++ G := by
  have hl : 0 < xs.length := List.length_pos_iff.2 hx
  obtain ⟨ys, y, rfl⟩ : ∃ ys y, xs = ys ++ [y] := ⟨xs.dropLast, xs.getLast hx, (List.dropLast_concat_getLast hx).symm⟩
  unfold folded
  rw [if_pos (by omega)]
  have e0 : (ys ++ [y]).reverse = y :: ys.reverse := by simp
  have e1 : (A ++ (ys ++ [y]).reverse ++ G).take A.length = A := by rw [List.append_assoc, List.take_left]
  have e2 : (A ++ (ys ++ [y]).reverse ++ G).drop (A.length + (ys ++ [y]).length) = G := by
    rw [show A.length + (ys ++ [y]).length = (A ++ (ys ++ [y]).reverse).length by simp, List.drop_left]
  have e3 : ((A ++ (ys ++ [y]).reverse ++ G).take (A.length + (ys ++ [y]).length)).drop (A.length + 1) = ys.reverse := by
    rw [show A.length + (ys ++ [y]).length = (A ++ (ys ++ [y]).reverse).length by simp, List.take_left, e0, ← List.drop_drop, List.drop_left]; rfl
  have e4 : (A ++ (ys ++ [y]).reverse ++ G).getD A.length [] = y := by
    rw [e0, List.append_assoc, List.getD_eq_getElem?_getD, List.getElem?_append_right (Nat.le_refl _), Nat.sub_self]; rfl
  rw [e1, e2, e3, e4, bord_foldR H E]
  simp
theorem folded_none (H : List Int → List Int → List Int) (b : Nat) (l : List (List Int)) : folded H b b l = l := by unfold folded; rw [if_neg (by omega)]
theorem folded_parts (H : List Int → List Int → List Int) (E : List Int) (val : Nat × Nat → List Int) (c l n : Nat) (hi : c < n / 2 ^ l) : folded H (skBegin c l n) (skEnd c l n) ((skIds c l n).map val) = (nParts c l n).map (prtV H E val) := by
  have hE := (ndE_le c l n hi).2
  unfold skIds nParts skBegin skEnd
  rw [List.map_append, List.map_append, List.map_append, List.map_append, map_lvs, map_lvs]
  by_cases h : ndE c l n < n
  · have hne := Nds_nonempty (l := 0) h
    have hm := folded_mid H E ((ndS c l n).map val) ((Nds 0 0 (ndB c l n)).reverse.map val) ((Nds 0 (ndE c l n) n).map val) (by intro e; have := congrArg List.length e; rw [List.length_map, List.length_nil] at this; omega)
    rw [List.length_map, List.length_map, ndS_len, ← List.map_reverse] at hm
    rw [if_neg (by omega), if_neg (by omega), if_pos h, hm]; rfl
  · rw [if_neg h, Nds_empty (show n ≤ ndE c l n by omega), if_pos (by rfl), if_pos (by rfl), folded_none]; rfl
theorem path_nParts (i n : Nat) (hi : i < n) : path i 0 n = nParts i 0 n := by
  have hPP := (path_parts i n n n 0 (by omega) (by simp) (by have := @Nat.lt_two_pow_self n; omega) (Nat.zero_le _) hi).2
  have hm : ndM i 0 n = fork i n - 1 := by unfold ndM; rw [Nat.pow_zero, Nat.div_one]
  rw [hPP]
  unfold nParts ndE ndB ndS sibs
  rw [hm, Nat.zero_add]
  congr 2
  congr 1
  apply List.map_congr_left
  intro t _
  rw [Nat.zero_add]; rfl
theorem prtV_mth (H : List Int → List Int → List Int) (E : List Int) (L : List (List Int)) {b e M : Nat} (he : e ≤ L.length) (hb : b % 2 ^ M = 0) (hM : e ≤ b + 2 ^ M) (hbe : b < e) : prtV H E (nodeH H E L) (b, e) = mth H E (seg L b e) :=
  fold_nodes H E L e he _ M b rfl hb hM hbe
theorem part_mth (H : List Int → List Int → List Int) (E : List Int) (L : List (List Int)) (c l n : Nat) (hi : c < n / 2 ^ l) (hn : n ≤ L.length) : ∀ p ∈ nParts c l n, prtV H E (nodeH H E L) p = mth H E (seg L p.1 p.2) ∧ p.1 < p.2 ∧ p.2 ≤ n := by
  obtain ⟨hE1, hE⟩ := ndE_le c l n hi
  have hB := ndB_lt c l n hi
  have hone : ∀ q : Nat × Nat, (q.2 + 1) * 2 ^ q.1 ≤ n → prtV H E (nodeH H E L) (lvs q) = mth H E (seg L (lvs q).1 (lvs q).2) ∧ (lvs q).1 < (lvs q).2 ∧ (lvs q).2 ≤ n := by
    intro q hq
    rw [prtV_lvs]
    refine ⟨rfl, ?_, hq⟩
    unfold lvs
    dsimp only
    have := Nat.two_pow_pos q.1
    rw [Nat.add_mul, Nat.one_mul]; omega
  intro p hp
  unfold nParts at hp
  rcases List.mem_append.1 hp with hp | hp
  · rcases List.mem_append.1 hp with hp | hp
    · obtain ⟨q, hq, rfl⟩ := List.mem_map.1 hp
      refine hone q ?_
      unfold ndS at hq
      obtain ⟨t, ht, rfl⟩ := List.mem_map.1 hq
      have ht := List.mem_range.1 ht
      have h1 := blk_le c l (show t + 1 ≤ ndM c l n from ht)
      have h2 : (c / 2 ^ ndM c l n + 1) * 2 ^ (l + ndM c l n) ≤ n := hE
      have hx : c / 2 ^ (t + 1) = c / 2 ^ t / 2 := by rw [Nat.pow_succ, ← Nat.div_div_eq_div_mul]
      have e2 : (c / 2 ^ (t + 1) + 1) * 2 ^ (l + (t + 1)) = (2 * (c / 2 ^ t / 2) + 2) * 2 ^ (l + t) := by
        rw [hx, ← Nat.add_assoc, Nat.pow_succ, show 2 * (c / 2 ^ t / 2) + 2 = 2 * (c / 2 ^ t / 2 + 1) by omega]; ac_rfl
      have h3 : (sib c t).2 + 1 ≤ 2 * (c / 2 ^ t / 2) + 2 := by
        unfold sib; dsimp only; split <;> omega
      have h4 := Nat.mul_le_mul_right (2 ^ (l + t)) h3
      show ((sib c t).2 + 1) * 2 ^ (l + t) ≤ n
      omega
    · split at hp
      · rename_i hlt
        have e := List.mem_singleton.1 hp
        subst e
        refine ⟨prtV_mth H E L (M := l + ndM c l n) hn ?_ ?_ hlt, hlt, Nat.le_refl _⟩
        · rw [hE1, Nat.mul_mod_left]
        · have h1 : n < (n / 2 ^ (l + ndM c l n) + 1) * 2 ^ (l + ndM c l n) := (Nat.div_lt_iff_lt_mul (Nat.two_pow_pos (l + ndM c l n))).1 (Nat.lt_succ_self _)
          rw [Nat.add_mul, Nat.one_mul, ← hE1] at h1; omega
      · cases hp
  · obtain ⟨q, hq, rfl⟩ := List.mem_map.1 hp
    have := Nds_in (ndB c l n) _ 0 rfl q (List.mem_reverse.1 hq)
    exact hone q (by omega)
theorem ids_in (c l n : Nat) (hi : c < n / 2 ^ l) : ∀ p ∈ skIds c l n, (p.2 + 1) * 2 ^ p.1 ≤ n := by
  obtain ⟨hE1, hE⟩ := ndE_le c l n hi
  have hB := ndB_lt c l n hi
  intro p hp
  unfold skIds at hp
  rcases List.mem_append.1 hp with hp | hp
  · rcases List.mem_append.1 hp with hp | hp
    · have := (part_mth (fun _ _ => []) [] (List.replicate n []) c l n hi (by simp) (lvs p) (by
        unfold nParts
        exact List.mem_append_left _ (List.mem_append_left _ (List.mem_map_of_mem hp)))).2.2
      exact this
    · exact (Nds_in n _ (ndE c l n) rfl p (List.mem_reverse.1 hp)).2
  · have := Nds_in (ndB c l n) _ 0 rfl p (List.mem_reverse.1 hp)
    omega
end Go.Proofs.YtielnphmcaecdaaDoor.Hsh
