-- Written by a program of this session (wip/tools)
import Derived.Test.YtielnphmcaecdaaDoorQTRExtRangeG
import Derived.Test.YtielnphmcaecdaaDoorQTRExtTz
import Derived.Test.YtielnphmcaecdaaDoorQTRExtTreeA
import Derived.Laws.Bits128
import Derived.KernelRfl
import Derived.Test.YtielnphmcaecdaaDoorQTRPAllx0
import Derived.Test.YtielnphmcaecdaaDoorQTRTexts
import Derived.Test.YtielnphmcaecdaaDoorQTRPAllx4
namespace Go.Proofs.YtielnphmcaecdaaDoor.Mth
def seg (L : List (List Int)) (b e : Nat) : List (List Int) := (L.take e).drop b
theorem seg_length {L : List (List Int)} {b e : Nat} (h : e ≤ L.length) : (seg L b e).length = e - b := by
  unfold seg; rw [List.length_drop, List.length_take]; omega
theorem seg_take {L : List (List Int)} {b e k : Nat} (h : b + k ≤ e) : (seg L b e).take k = seg L b (b + k) := by
  unfold seg
  rw [List.take_drop, List.take_take, Nat.min_eq_left h]
theorem seg_drop {L : List (List Int)} {b e k : Nat} : (seg L b e).drop k = seg L (b + k) e := by
  unfold seg
  rw [List.drop_drop]
theorem seg_one {L : List (List Int)} {b : Nat} (h : b < L.length) : seg L b (b + 1) = [L[b]] := by
  unfold seg
  rw [List.drop_take, Nat.add_sub_cancel_left, List.drop_eq_getElem_cons h]; rfl
theorem seg_zero (L : List (List Int)) (e : Nat) : seg L 0 e = L.take e := by unfold seg; rw [List.drop_zero]
theorem seg_bound {L : List (List Int)} {b e m : Nat} (h : ∀ x ∈ L, x.length ≤ m) : ∀ x ∈ seg L b e, x.length ≤ m := fun x hx => h x (List.mem_of_mem_take (List.mem_of_mem_drop hx))
def mth (H : List Int → List Int → List Int) (E : List Int) (L : List (List Int)) : List Int :=
  if _h : L.length ≤ 1 then L.headD E else H (mth H E (L.take (psplit L.length))) (mth H E (L.drop (psplit L.length)))
termination_by L.length
decreasing_by
  · have := psplit_lt (n := L.length) (by omega); rw [List.length_take]; omega
  · have := psplit_pos L.length; rw [List.length_drop]; omega
theorem mth_one (H : List Int → List Int → List Int) (E x : List Int) : mth H E [x] = x := by rw [mth, dif_pos (by simp)]; rfl
theorem mth_nil (H : List Int → List Int → List Int) (E : List Int) : mth H E [] = E := by rw [mth, dif_pos (by simp)]; rfl
theorem mth_split (H : List Int → List Int → List Int) (E : List Int) {L : List (List Int)} (h : 2 ≤ L.length) : mth H E L = H (mth H E (L.take (psplit L.length))) (mth H E (L.drop (psplit L.length))) := by
  rw [mth, dif_neg (by omega)]
theorem mth_seg (H : List Int → List Int → List Int) (E : List Int) {L : List (List Int)} {b e : Nat} (he : e ≤ L.length) (h : 2 ≤ e - b) : mth H E (seg L b e) = H (mth H E (seg L b (b + psplit (e - b)))) (mth H E (seg L (b + psplit (e - b)) e)) := by
  have hl := seg_length (b := b) he
  have hp := psplit_lt h
  rw [mth_split H E (by omega), hl, seg_take (by omega), seg_drop]
def Grows (H : List Int → List Int → List Int) : Prop := ∀ l r, (H l r).length ≤ 9 + l.length + r.length
theorem mth_length {H : List Int → List Int → List Int} (hH : Grows H) (E : List Int) (m : Nat) : ∀ (n : Nat) (L : List (List Int)), L.length = n → 0 < n → (∀ x ∈ L, x.length ≤ m) → (mth H E L).length + 9 ≤ (m + 9) * n := by
  intro n
  induction n using Nat.strongRecOn with
  | _ n ih =>
  intro L hL hn hm
  by_cases h1 : n = 1
  · obtain ⟨x, rfl⟩ : ∃ x, L = [x] := by
      match L, hL with
      | [x], _ => exact ⟨x, rfl⟩
      | [], h => simp at h; omega
      | _ :: _ :: _, h => simp at h; omega
    rw [mth_one, h1]
    have := hm x (by simp)
    omega
  · have h2 : 2 ≤ L.length := by omega
    have hp := psplit_lt h2
    have hp0 := psplit_pos L.length
    have i1 := ih (psplit L.length) (by omega) (L.take (psplit L.length)) (by rw [List.length_take]; omega) hp0 (fun x hx => hm x (List.mem_of_mem_take hx))
    have i2 := ih (L.length - psplit L.length) (by omega) (L.drop (psplit L.length)) (by rw [List.length_drop]) (by omega) (fun x hx => hm x (List.mem_of_mem_drop hx))
    have hh := hH (mth H E (L.take (psplit L.length))) (mth H E (L.drop (psplit L.length)))
    rw [mth_split H E h2]
    have e : (m + 9) * n = (m + 9) * psplit L.length + (m + 9) * (L.length - psplit L.length) := by rw [← Nat.mul_add]; congr 1; omega
    omega
theorem mth_perfect (H : List Int → List Int → List Int) (E : List Int) {L : List (List Int)} {i j : Nat} (h : (j + 1) * 2 ^ (i + 1) ≤ L.length) :
    mth H E (seg L (j * 2 ^ (i + 1)) ((j + 1) * 2 ^ (i + 1))) = H (mth H E (seg L (2 * j * 2 ^ i) ((2 * j + 1) * 2 ^ i))) (mth H E (seg L ((2 * j + 1) * 2 ^ i) ((2 * j + 1 + 1) * 2 ^ i))) := by
  have hp := Nat.two_pow_pos i
  have e1 : j * 2 ^ (i + 1) = 2 * j * 2 ^ i := by rw [Nat.pow_succ]; ac_rfl
  have e2 : (2 * j + 1) * 2 ^ i = 2 * j * 2 ^ i + 2 ^ i := by rw [Nat.add_mul, Nat.one_mul]
  have e3 : (j + 1) * 2 ^ (i + 1) = (2 * j + 1 + 1) * 2 ^ i := by rw [show 2 * j + 1 + 1 = 2 * (j + 1) by omega, Nat.pow_succ]; ac_rfl
  have e4 : (2 * j + 1 + 1) * 2 ^ i = 2 * j * 2 ^ i + 2 ^ i + 2 ^ i := by rw [Nat.add_mul, e2, Nat.one_mul]
  have e5 : (j + 1) * 2 ^ (i + 1) - j * 2 ^ (i + 1) = 2 ^ (i + 1) := by rw [e1, e3, e4, Nat.pow_succ]; omega
  rw [mth_seg H E h (by rw [e5, Nat.pow_succ]; omega), e5, psplit_pow, e1, ← e2, e3]
theorem Nds_in (e : Nat) : ∀ (d b : Nat), e - b = d → ∀ p ∈ Nds 0 b e, b ≤ p.2 * 2 ^ p.1 ∧ (p.2 + 1) * 2 ^ p.1 ≤ e := by
  intro d
  induction d using Nat.strongRecOn with
  | _ d ih =>
  intro b hd p hp
  by_cases h : b < e
  · obtain ⟨s1, s2, _⟩ := lev_spec b e h
    have hpos := Nat.two_pow_pos (lev b e)
    rw [Nds_step 0 b e h, Nat.zero_add] at hp
    rcases List.mem_cons.mp hp with rfl | hp
    · have := Nat.div_add_mod b (2 ^ lev b e)
      rw [s1, Nat.add_zero] at this
      show b ≤ b / 2 ^ lev b e * 2 ^ lev b e ∧ (b / 2 ^ lev b e + 1) * 2 ^ lev b e ≤ e
      rw [Nat.add_mul, Nat.mul_comm (b / _), this]; omega
    · have := ih (e - (b + 2 ^ lev b e)) (by omega) (b + 2 ^ lev b e) rfl p hp
      omega
  · rw [Nds_empty (by omega)] at hp
    cases hp
def foldR (H : List Int → List Int → List Int) (E : List Int) : List (List Int) → List Int
  | [] => E
  | [x] => x
  | x :: y :: l => H x (foldR H E (y :: l))
theorem foldR_step {H : List Int → List Int → List Int} {E x : List Int} {l : List (List Int)} (h : l ≠ []) : foldR H E (x :: l) = H x (foldR H E l) := by
  cases l with
  | nil => exact absurd rfl h
  | cons y l => rfl
def nodeH (H : List Int → List Int → List Int) (E : List Int) (L : List (List Int)) (p : Nat × Nat) : List Int := mth H E (seg L (p.2 * 2 ^ p.1) ((p.2 + 1) * 2 ^ p.1))
theorem lev_is' {b e κ : Nat} (h : b < e) (h1 : b % 2 ^ κ = 0) (h2 : b + 2 ^ κ ≤ e) (h3 : e < b + 2 ^ (κ + 1)) : lev b e = κ := by
  obtain ⟨s1, s2, s3⟩ := lev_spec b e h
  rcases Nat.lt_trichotomy (lev b e) κ with hl | hl | hl
  · have hd : 2 ^ (lev b e + 1) ∣ b := Nat.dvd_trans (Nat.pow_dvd_pow 2 hl) (Nat.dvd_of_mod_eq_zero h1)
    have := s3 (Nat.mod_eq_zero_of_dvd hd)
    have := Nat.pow_le_pow_right (n := 2) (by decide) (show lev b e + 1 ≤ κ from hl)
    omega
  · exact hl
  · have := Nat.pow_le_pow_right (n := 2) (by decide) (show κ + 1 ≤ lev b e from hl)
    omega
theorem fold_nodes (H : List Int → List Int → List Int) (E : List Int) (L : List (List Int)) (n : Nat) (hn : n ≤ L.length) : ∀ (d M B : Nat), n - B = d → B % 2 ^ M = 0 → n ≤ B + 2 ^ M → B < n → foldR H E ((Nds 0 B n).map (nodeH H E L)) = mth H E (seg L B n) := by
  intro d
  induction d using Nat.strongRecOn with
  | _ d ih =>
  intro M B hd hB hM hBn
  have hnode : ∀ κ, B % 2 ^ κ = 0 → lev B n = κ → Nds 0 B n = (κ, B / 2 ^ κ) :: Nds 0 (B + 2 ^ κ) n ∧ nodeH H E L (κ, B / 2 ^ κ) = mth H E (seg L B (B + 2 ^ κ)) := by
    intro κ h1 h2
    refine ⟨by have := Nds_step 0 B n hBn; rw [h2, Nat.zero_add] at this; exact this, ?_⟩
    have := Nat.div_add_mod B (2 ^ κ)
    rw [h1, Nat.add_zero] at this
    show mth H E (seg L (B / 2 ^ κ * 2 ^ κ) ((B / 2 ^ κ + 1) * 2 ^ κ)) = _
    rw [Nat.add_mul, Nat.one_mul, Nat.mul_comm (B / _), this]
  by_cases hfull : n = B + 2 ^ M
  · obtain ⟨e1, e2⟩ := hnode M hB (lev_is' hBn hB (by omega) (by have := Nat.two_pow_pos M; rw [Nat.pow_succ]; omega))
    rw [e1, Nds_empty (by omega), List.map_cons, List.map_nil, foldR, e2, hfull]
  · by_cases h1 : n - B = 1
    · have hB0 : B % 2 ^ 0 = 0 := by rw [Nat.pow_zero, Nat.mod_one]
      have hM1 : 0 < M := by
        rcases Nat.eq_zero_or_pos M with h | h
        · subst h; rw [Nat.pow_zero] at hfull; omega
        · exact h
      obtain ⟨e1, e2⟩ := hnode 0 hB0 (lev_is' hBn hB0 (by rw [Nat.pow_zero]; omega) (by rw [Nat.zero_add, Nat.pow_one]; omega))
      rw [e1, Nds_empty (by rw [Nat.pow_zero]; omega), List.map_cons, List.map_nil, foldR, e2, Nat.pow_zero, show B + 1 = n by omega]
    · have h2 : 2 ≤ n - B := by omega
      obtain ⟨κ, hκ⟩ : ∃ κ, psplit (n - B) = 2 ^ κ := ⟨_, rfl⟩
      have hp := Nat.two_pow_pos κ
      have hlt := psplit_lt h2
      have hle := le_psplit h2
      rw [hκ] at hlt hle
      have hpow : 2 ^ (κ + 1) = 2 * 2 ^ κ := by rw [Nat.pow_succ]; omega
      have hκM : κ < M := by
        apply Nat.lt_of_not_le
        intro h
        have := Nat.pow_le_pow_right (n := 2) (by decide) h
        omega
      have hd1 : 2 ^ (κ + 1) ∣ B := Nat.dvd_trans (Nat.pow_dvd_pow 2 hκM) (Nat.dvd_of_mod_eq_zero hB)
      have hd0 : 2 ^ κ ∣ B := Nat.dvd_trans (Nat.pow_dvd_pow 2 (by omega)) hd1
      by_cases hperf : n = B + 2 ^ (κ + 1)
      · obtain ⟨e1, e2⟩ := hnode (κ + 1) (Nat.mod_eq_zero_of_dvd hd1) (lev_is' hBn (Nat.mod_eq_zero_of_dvd hd1) (by omega) (by rw [Nat.pow_succ 2 (κ + 1)]; omega))
        rw [e1, Nds_empty (by omega), List.map_cons, List.map_nil, foldR, e2, ← hperf]
      · obtain ⟨e1, e2⟩ := hnode κ (Nat.mod_eq_zero_of_dvd hd0) (lev_is' hBn (Nat.mod_eq_zero_of_dvd hd0) (by omega) (by omega))
        have i1 := ih (n - (B + 2 ^ κ)) (by omega) κ (B + 2 ^ κ) rfl (by rw [Nat.add_mod_right]; exact Nat.mod_eq_zero_of_dvd hd0) (by omega) (by omega)
        rw [e1, List.map_cons, foldR_step (by
          intro h
          have h3 := congrArg List.length h
          rw [List.length_map] at h3
          have := Nds_nonempty (l := 0) (b := B + 2 ^ κ) (e := n) (by omega)
          rw [h3] at this
          exact absurd this (Nat.lt_irrefl 0)), i1, e2, mth_seg H E hn h2, hκ]
end Go.Proofs.YtielnphmcaecdaaDoor.Mth
namespace Go.Proofs.YtielnphmcaecdaaDoor.PAll
open Go.RowKit Go.Proofs.YtielnphmcaecdaaDoor.Num Go.Proofs.YtielnphmcaecdaaDoor.Mth Go.Proofs.YtielnphmcaecdaaDoorW.PrintWords Go.Proofs.YtielnphmcaecdaaDoorW.PrintLast
theorem ndiv (n m : Nat) : (n : Int) / (m : Int) = ((n / m : Nat) : Int) := (Int.natCast_ediv n m).symm
theorem and_le2 (a b : Nat) : a &&& b ≤ b := Nat.and_le_right
theorem msk55 : msk 85 8 = 6148914691236517205 := rfl
theorem msk33 : msk 51 8 = 3689348814741910323 := rfl
theorem msk0f : msk 15 8 = 1085102592571150095 := rfl
theorem st1_le (x : Nat) : st1 8 x ≤ 12297829382473034410 := by
  have h1 := and_le2 (x / 2) (msk 85 8); have h2 := and_le2 x (msk 85 8)
  rw [msk55] at h1 h2
  unfold st1; rw [msk55]; omega
theorem st2_le (x : Nat) : st2 8 x ≤ 7378697629483820646 := by
  have h1 := and_le2 (x / 4) (msk 51 8); have h2 := and_le2 x (msk 51 8)
  rw [msk33] at h1 h2
  unfold st2; rw [msk33]; omega
theorem bits_OnesCount64.eq (x : Nat) (hx : x < 18446744073709551616) : bits_OnesCount64.f (x : Int) = some ((ones x : Nat) : Int) := by
  have h1 := st1_le x
  have h2 := st2_le (st1 8 x)
  have hs := swar x hx
  dsimp only at hs
  have h3 : st3 8 (st2 8 (st1 8 x)) = cnt 8 x := st3_all 8 x
  have d2 : (x : Int) / 2 = ((x / 2 : Nat) : Int) := ndiv x 2
  have a1 : Go.bits .and .u64 ((x / 2 : Nat) : Int) 6148914691236517205 = ((x / 2 &&& 6148914691236517205 : Nat) : Int) := and64 (x / 2) 6148914691236517205 (by omega) (by omega)
  have a2 : Go.bits .and .u64 (x : Int) 6148914691236517205 = ((x &&& 6148914691236517205 : Nat) : Int) := and64 x 6148914691236517205 (by omega) (by omega)
  have e1 : IntKind.u64.wrap (Go.bits .and .u64 ((x : Int) / 2) 6148914691236517205 + Go.bits .and .u64 (x : Int) 6148914691236517205) = ((st1 8 x : Nat) : Int) := by
    rw [d2, a1, a2, ← Int.natCast_add, ← msk55]
    exact u64in (n := st1 8 x) (by omega)
  generalize st1 8 x = y at *
  have d3 : (y : Int) / 4 = ((y / 4 : Nat) : Int) := ndiv y 4
  have b1 : Go.bits .and .u64 ((y / 4 : Nat) : Int) 3689348814741910323 = ((y / 4 &&& 3689348814741910323 : Nat) : Int) := and64 (y / 4) 3689348814741910323 (by omega) (by omega)
  have b2 : Go.bits .and .u64 (y : Int) 3689348814741910323 = ((y &&& 3689348814741910323 : Nat) : Int) := and64 y 3689348814741910323 (by omega) (by omega)
  have e2 : IntKind.u64.wrap (Go.bits .and .u64 ((y : Int) / 4) 3689348814741910323 + Go.bits .and .u64 (y : Int) 3689348814741910323) = ((st2 8 y : Nat) : Int) := by
    rw [d3, b1, b2, ← Int.natCast_add, ← msk33]
    exact u64in (n := st2 8 y) (by omega)
  generalize st2 8 y = z at *
  have d4 : (z : Int) / 16 = ((z / 16 : Nat) : Int) := ndiv z 16
  have c0 : IntKind.u64.wrap ((z : Int) / 16 + (z : Int)) = ((z / 16 + z : Nat) : Int) := by
    rw [d4, ← Int.natCast_add]
    exact u64in (by omega)
  have e3 : Go.bits .and .u64 (IntKind.u64.wrap ((z : Int) / 16 + (z : Int))) 1085102592571150095 = ((cnt 8 x : Nat) : Int) := by
    rw [c0, ← h3, st3, msk0f]
    exact and64 (z / 16 + z) 1085102592571150095 (by omega) (by omega)
  generalize cnt 8 x = c at *
  have d5 : (c : Int) / 256 = ((c / 256 : Nat) : Int) := ndiv c 256
  have e4 : IntKind.u64.wrap ((c : Int) + (c : Int) / 256) = ((c + c / 256 : Nat) : Int) := by
    rw [d5, ← Int.natCast_add]
    exact u64in (by omega)
  have hp := hs.2.1
  generalize c + c / 256 = p at *
  have d6 : (p : Int) / 65536 = ((p / 65536 : Nat) : Int) := ndiv p 65536
  have e5 : IntKind.u64.wrap ((p : Int) + (p : Int) / 65536) = ((p + p / 65536 : Nat) : Int) := by
    rw [d6, ← Int.natCast_add]
    exact u64in (by omega)
  generalize p + p / 65536 = q at *
  have d7 : (q : Int) / 4294967296 = ((q / 4294967296 : Nat) : Int) := ndiv q 4294967296
  have e6 : IntKind.u64.wrap ((q : Int) + (q : Int) / 4294967296) = ((q + q / 4294967296 : Nat) : Int) := by
    rw [d7, ← Int.natCast_add]
    exact u64in (by omega)
  generalize q + q / 4294967296 = r at *
  have hr : Go.bits .and .i64 (wrap64 (r : Int)) 127 = ((ones x : Nat) : Int) := by
    rw [i64_and127, w64 hs.2.1, ← hs.1]
    rfl
  unfold bits_OnesCount64.f
  rw [e1, e2, e3, e4, e5, e6, hr]
def lenTab : ByteArray := (⟨#[0, 1, 2, 2, 3, 3, 3, 3, 4, 4, 4, 4, 4, 4, 4, 4, 5, 5, 5, 5, 5, 5, 5, 5, 5, 5, 5, 5, 5, 5, 5, 5, 6, 6, 6, 6, 6, 6, 6, 6, 6, 6, 6, 6, 6, 6, 6, 6, 6, 6, 6, 6, 6, 6, 6, 6, 6, 6, 6, 6, 6, 6, 6, 6, 7, 7, 7, 7, 7, 7, 7, 7, 7, 7, 7, 7, 7, 7, 7, 7, 7, 7, 7, 7, 7, 7, 7, 7, 7, 7, 7, 7, 7, 7, 7, 7, 7, 7, 7, 7, 7, 7, 7, 7, 7, 7, 7, 7, 7, 7, 7, 7, 7, 7, 7, 7, 7, 7, 7, 7, 7, 7, 7, 7, 7, 7, 7, 7, 8, 8, 8, 8, 8, 8, 8, 8, 8, 8, 8, 8, 8, 8, 8, 8, 8, 8, 8, 8, 8, 8, 8, 8, 8, 8, 8, 8, 8, 8, 8, 8, 8, 8, 8, 8, 8, 8, 8, 8, 8, 8, 8, 8, 8, 8, 8, 8, 8, 8, 8, 8, 8, 8, 8, 8, 8, 8, 8, 8, 8, 8, 8, 8, 8, 8, 8, 8, 8, 8, 8, 8, 8, 8, 8, 8, 8, 8, 8, 8, 8, 8, 8, 8, 8, 8, 8, 8, 8, 8, 8, 8, 8, 8, 8, 8, 8, 8, 8, 8, 8, 8, 8, 8, 8, 8, 8, 8, 8, 8, 8, 8, 8, 8, 8, 8, 8, 8, 8, 8, 8, 8, 8, 8, 8, 8, 8, 8]⟩ : ByteArray)
def lenList : List Nat := [0, 1, 2, 2, 3, 3, 3, 3, 4, 4, 4, 4, 4, 4, 4, 4, 5, 5, 5, 5, 5, 5, 5, 5, 5, 5, 5, 5, 5, 5, 5, 5, 6, 6, 6, 6, 6, 6, 6, 6, 6, 6, 6, 6, 6, 6, 6, 6, 6, 6, 6, 6, 6, 6, 6, 6, 6, 6, 6, 6, 6, 6, 6, 6, 7, 7, 7, 7, 7, 7, 7, 7, 7, 7, 7, 7, 7, 7, 7, 7, 7, 7, 7, 7, 7, 7, 7, 7, 7, 7, 7, 7, 7, 7, 7, 7, 7, 7, 7, 7, 7, 7, 7, 7, 7, 7, 7, 7, 7, 7, 7, 7, 7, 7, 7, 7, 7, 7, 7, 7, 7, 7, 7, 7, 7, 7, 7, 7, 8, 8, 8, 8, 8, 8, 8, 8, 8, 8, 8, 8, 8, 8, 8, 8, 8, 8, 8, 8, 8, 8, 8, 8, 8, 8, 8, 8, 8, 8, 8, 8, 8, 8, 8, 8, 8, 8, 8, 8, 8, 8, 8, 8, 8, 8, 8, 8, 8, 8, 8, 8, 8, 8, 8, 8, 8, 8, 8, 8, 8, 8, 8, 8, 8, 8, 8, 8, 8, 8, 8, 8, 8, 8, 8, 8, 8, 8, 8, 8, 8, 8, 8, 8, 8, 8, 8, 8, 8, 8, 8, 8, 8, 8, 8, 8, 8, 8, 8, 8, 8, 8, 8, 8, 8, 8, 8, 8, 8, 8, 8, 8, 8, 8, 8, 8, 8, 8, 8, 8, 8, 8, 8, 8, 8, 8, 8, 8]
theorem lenList_all : lenList = (List.range 256).map blen := by decide +kernel
theorem lenTab_same : lenTab.data.toList.map UInt8.toNat = lenList := by kernel_rfl
theorem lenTab_all : lenTab.data.toList.map UInt8.toNat = (List.range 256).map blen := lenTab_same.trans lenList_all
theorem lenTab_list (i : Nat) (h : i < 256) : (lenTab.data.toList.getD i 0).toNat = blen i := by
  have h1 : (lenTab.data.toList.map UInt8.toNat)[i]? = ((List.range 256).map blen)[i]? := by rw [lenTab_all]
  rw [List.getElem?_map, List.getElem?_map, List.getElem?_range h] at h1
  rw [List.getD_eq_getElem?_getD]
  cases h2 : lenTab.data.toList[i]? with
  | none => rw [h2] at h1; simp at h1
  | some b => rw [h2] at h1; simpa using h1
theorem lenTab_size : lenTab.size = 256 := by kernel_rfl
theorem bt_list (s : ByteArray) (i : Nat) (h : i < s.size) : bt s (i : Int) = ((s.data.toList.getD i 0).toNat : Int) := by
  have h' : i < s.data.size := h
  unfold bt
  rw [dif_pos (by simpa using h)]
  simp only [Int.toNat_natCast]
  rw [List.getD_eq_getElem?_getD, Array.getElem?_toList, Array.getElem?_eq_getElem h']
  rfl
theorem lenTab_at (i : Nat) (h : i < 256) : bt lenTab (i : Int) = ((blen i : Nat) : Int) := by
  rw [bt_list _ _ (by rw [lenTab_size]; exact h), lenTab_list i h]
theorem blen_shift (x s : Nat) (h : 2 ^ s ≤ x) : blen x = blen (x / 2 ^ s) + s := by
  induction s generalizing x with
  | zero => simp
  | succ s ih =>
    have hp := Nat.two_pow_pos s
    rw [Nat.pow_succ] at h
    rw [blen_pos (by omega), ih (x / 2) (by omega), Nat.div_div_eq_div_mul, Nat.pow_succ, Nat.mul_comm 2]; omega
theorem w64_add (a b : Nat) (h : a + b < 9223372036854775808) : wrap64 ((a : Int) + (b : Int)) = ((a + b : Nat) : Int) := by
  rw [← Int.natCast_add]; exact w64 h
theorem byte_in (y : Nat) (h : y < 256) : (y : Int) % 256 = (y : Int) := by omega
theorem blen_byte {y : Nat} (h : y < 256) : blen y ≤ 8 := blen_le.2 h
theorem len_end (b s : Nat) (hb : b ≤ 8) (hs : s ≤ 256) : wrap64 ((s : Int) + wrap64 (b : Int)) = ((b + s : Nat) : Int) := by
  rw [w64 (n := b) (by omega), w64_add s b (by omega), Nat.add_comm]
theorem shift_end (s d : Nat) (hs : s ≤ 256) (hd : d ≤ 256) : wrap64 ((s : Int) + (d : Int)) = ((s + d : Nat) : Int) := w64_add s d (by omega)
theorem bits_Len64.low (k : Nat) (x s : Nat) (hx : x < 4294967296) (hs : s ≤ 64) : bits_Len64.j0 (k + 1) (x : Int) (s : Int) = some ((blen x + s : Nat) : Int) := by
  show (if (x : Int) ≥ 65536 then (if ((x : Int) / 65536) ≥ 256 then (if 0 ≤ ((((x : Int) / 65536) / 256) % 256) then (if ((((x : Int) / 65536) / 256) % 256) < 256 then (some (wrap64 ((wrap64 ((wrap64 ((s : Int) + 16)) + 8)) + (wrap64 (bt lenTab ((((x : Int) / 65536) / 256) % 256)))))) else (none)) else (none)) else (if 0 ≤ (((x : Int) / 65536) % 256) then (if (((x : Int) / 65536) % 256) < 256 then (some (wrap64 ((wrap64 ((s : Int) + 16)) + (wrap64 (bt lenTab (((x : Int) / 65536) % 256)))))) else (none)) else (none))) else (if (x : Int) ≥ 256 then (if 0 ≤ (((x : Int) / 256) % 256) then (if (((x : Int) / 256) % 256) < 256 then (some (wrap64 ((wrap64 ((s : Int) + 8)) + (wrap64 (bt lenTab (((x : Int) / 256) % 256)))))) else (none)) else (none)) else (if 0 ≤ (((x : Int)) % 256) then (if (((x : Int)) % 256) < 256 then (some (wrap64 ((s : Int) + (wrap64 (bt lenTab (((x : Int)) % 256)))))) else (none)) else (none)))) = _
  have d1 : (x : Int) / 65536 = ((x / 65536 : Nat) : Int) := ndiv x 65536
  have d2 : (x : Int) / 256 = ((x / 256 : Nat) : Int) := ndiv x 256
  have d3 : ((x / 65536 : Nat) : Int) / 256 = ((x / 65536 / 256 : Nat) : Int) := ndiv (x / 65536) 256
  have s16 : wrap64 ((s : Int) + 16) = ((s + 16 : Nat) : Int) := shift_end s 16 (by omega) (by omega)
  have s8 : wrap64 ((s : Int) + 8) = ((s + 8 : Nat) : Int) := shift_end s 8 (by omega) (by omega)
  have s24 : wrap64 (((s + 16 : Nat) : Int) + 8) = ((s + 16 + 8 : Nat) : Int) := shift_end (s + 16) 8 (by omega) (by omega)
  rw [d1, d2, d3, s16, s8, s24]
  by_cases h1 : 65536 ≤ x
  · rw [if_pos (by omega)]
    by_cases h2 : 256 ≤ x / 65536
    · have h3 : x / 65536 / 256 < 256 := by omega
      have e := blen_shift x 24 (by omega)
      rw [show x / 2 ^ 24 = x / 65536 / 256 by omega] at e
      rw [if_pos (by omega), byte_in _ h3, lenTab_at _ h3, if_pos (by omega), if_pos (by omega), len_end _ _ (blen_byte h3) (by omega), e]
      congr 2; omega
    · have h3 : x / 65536 < 256 := by omega
      have e := blen_shift x 16 (by omega)
      rw [show x / 2 ^ 16 = x / 65536 by omega] at e
      rw [if_neg (by omega), byte_in _ h3, lenTab_at _ h3, if_pos (by omega), if_pos (by omega), len_end _ _ (blen_byte h3) (by omega), e]
      congr 2; omega
  · rw [if_neg (by omega)]
    by_cases h2 : 256 ≤ x
    · have h3 : x / 256 < 256 := by omega
      have e := blen_shift x 8 (by omega)
      rw [show x / 2 ^ 8 = x / 256 by omega] at e
      rw [if_pos (by omega), byte_in _ h3, lenTab_at _ h3, if_pos (by omega), if_pos (by omega), len_end _ _ (blen_byte h3) (by omega), e]
      congr 2; omega
    · have h3 : x < 256 := by omega
      rw [if_neg (by omega), byte_in _ h3, lenTab_at _ h3, if_pos (by omega), if_pos (by omega), len_end _ _ (blen_byte h3) (by omega)]
theorem bits_Len64.eq (k : Nat) (x : Nat) (hx : x < 18446744073709551616) : bits_Len64.f (k + 1) (x : Int) = some ((blen x : Nat) : Int) := by
  unfold bits_Len64.f
  have d1 : (x : Int) / 4294967296 = ((x / 4294967296 : Nat) : Int) := ndiv x 4294967296
  by_cases h : 4294967296 ≤ x
  · rw [if_pos (by omega), d1]
    have e := blen_shift x 32 (by omega)
    rw [show x / 2 ^ 32 = x / 4294967296 by omega] at e
    rw [e]
    exact bits_Len64.low k (x / 4294967296) 32 (by omega) (by omega)
  · rw [if_neg (by omega)]
    exact bits_Len64.low k x 0 (by omega) (by omega)
end Go.Proofs.YtielnphmcaecdaaDoor.PAll
namespace Go.Proofs.YtielnphmcaecdaaDoor.Mth
theorem fork_is {i n m : Nat} (h1 : i / 2 ^ (m + 1) = n / 2 ^ (m + 1)) (h2 : i / 2 ^ m ≠ n / 2 ^ m) : fork i n = m + 1 := by
  have a := fork_le.2 h1
  have b : ¬ fork i n ≤ m := fun h => h2 (fork_le.1 h)
  omega
end Go.Proofs.YtielnphmcaecdaaDoor.Mth
namespace Go.Proofs.YtielnphmcaecdaaDoor.Mth
open Go.Proofs.YtielnphmcaecdaaDoor.PAll
set_option linter.unusedVariables false
theorem Nds_snoc (l e : Nat) : Nds l 0 e = Nds (l + 1) 0 (e / 2) ++ (if e % 2 = 1 then [(l, e - 1)] else []) := by
  rcases Nat.eq_zero_or_pos e with h | h
  · subst h; rw [Nds_empty (Nat.le_refl _), Nds_empty (by omega)]; rfl
  · rw [Nds_some h, if_neg (show ¬ 0 % 2 = 1 by omega), List.nil_append]
def lowN (l x : Nat) : Nat → List (Nat × Nat)
  | 0 => []
  | t + 1 => (l + t, x / 2 ^ t - 1) :: lowN l x t
theorem lowN_len (l x : Nat) : ∀ t, (lowN l x t).length = t
  | 0 => rfl
  | t + 1 => by rw [lowN, List.length_cons, lowN_len l x t]
theorem Nds_low (l x : Nat) : ∀ t, (∀ j, j < t → x / 2 ^ j % 2 = 1) → Nds l 0 x = Nds (l + t) 0 (x / 2 ^ t) ++ lowN l x t
  | 0, _ => by rw [Nat.pow_zero, Nat.div_one, lowN, List.append_nil]; rfl
  | t + 1, h => by
    rw [Nds_low l x t (fun j hj => h j (by omega)), Nds_snoc (l + t), if_pos (h t (by omega)), lowN, Nat.pow_succ, ← Nat.div_div_eq_div_mul, List.append_assoc]; rfl
theorem tones_spec (E : Nat) : (∀ j, j < tones E → E / 2 ^ j % 2 = 1) ∧ E / 2 ^ tones E % 2 = 0 ∧ (E + 1) % 2 ^ tones E = 0 := by
  have h0 := fun j hj => tones_odd E j hj
  obtain ⟨h1, h2, h3⟩ := lev_spec (E + 1) (2 * (E + 1)) (by omega)
  have h1 : (E + 1) % 2 ^ tones E = 0 := h1
  refine ⟨h0, ?_, h1⟩
  rcases Nat.mod_two_eq_zero_or_one (E / 2 ^ tones E) with h | h
  · exact h
  · exfalso
    have hc := carry (n := E) (ℓ := tones E) h0
    have hd := Nat.div_add_mod (E + 1) (2 ^ tones E)
    rw [h1, hc, Nat.add_zero] at hd
    obtain ⟨q, hq⟩ : ∃ q, E / 2 ^ tones E + 1 = 2 * q := ⟨(E / 2 ^ tones E + 1) / 2, by omega⟩
    rw [hq] at hd
    have e2 : E + 1 = 2 ^ (tones E + 1) * q := by rw [Nat.pow_succ, Nat.mul_assoc]; exact hd.symm
    have h5 : (E + 1) % 2 ^ (tones E + 1) = 0 := by
      have := Nat.mul_mod_right (2 ^ (tones E + 1)) q
      rw [← e2] at this; exact this
    have h6 : 2 * (E + 1) < E + 1 + 2 ^ (tones E + 1) := h3 h5
    have hq0 : 0 < q := by
      rcases Nat.eq_zero_or_pos q with h | h
      · rw [h, Nat.mul_zero] at e2; omega
      · exact h
    have : 2 ^ (tones E + 1) ≤ 2 ^ (tones E + 1) * q := Nat.le_mul_of_pos_right _ hq0
    omega
theorem Nds_up (l x : Nat) : ∀ t, t ≤ tones x → Nds l 0 (x + 1) = Nds (l + t) 0 ((x + 1) / 2 ^ t)
  | 0, _ => by rw [Nat.pow_zero, Nat.div_one]; rfl
  | t + 1, h => by
    have h0 := (tones_spec x).1
    rw [Nds_up l x t (by omega), Nds_snoc (l + t), carry (n := x) (ℓ := t) (fun j hj => h0 j (by omega)), if_neg (by have := h0 t (by omega); omega), List.append_nil, carry (n := x) (ℓ := t + 1) (fun j hj => h0 j (by omega)), Nat.pow_succ, ← Nat.div_div_eq_div_mul]
    have := h0 t (by omega)
    rw [show (x / 2 ^ t + 1) / 2 = x / 2 ^ t / 2 + 1 by omega]; rfl
theorem Nds_more (x : Nat) : tones x ≤ (Nds 0 0 x).length ∧ Nds 0 0 (x + 1) = (Nds 0 0 x).take ((Nds 0 0 x).length - tones x) ++ [(tones x, x / 2 ^ tones x)] := by
  obtain ⟨h0, h1, _⟩ := tones_spec x
  have e1 := Nds_low 0 x (tones x) h0
  have e2 := Nds_up 0 x (tones x) (Nat.le_refl _)
  have hl : (Nds 0 0 x).length = (Nds (0 + tones x) 0 (x / 2 ^ tones x)).length + tones x := by
    conv => lhs; rw [e1]
    rw [List.length_append, lowN_len]
  refine ⟨by omega, ?_⟩
  have e3 : (Nds 0 0 x).take ((Nds 0 0 x).length - tones x) = Nds (0 + tones x) 0 (x / 2 ^ tones x) := by
    rw [hl, Nat.add_sub_cancel]
    conv => lhs; rw [e1]
    rw [List.take_left]
  rw [e2, e3, carry (n := x) (ℓ := tones x) h0, Nds_snoc (0 + tones x), if_pos (by omega), Nds_snoc (0 + tones x) (x / 2 ^ tones x), if_neg (by omega), List.append_nil, show (x / 2 ^ tones x + 1) / 2 = x / 2 ^ tones x / 2 by omega, Nat.add_sub_cancel, Nat.zero_add]
theorem Nds_at (x t : Nat) (h : t < tones x) : (Nds 0 0 x)[(Nds 0 0 x).length - 1 - t]? = some (t, x / 2 ^ t - 1) := by
  obtain ⟨h0, _, _⟩ := tones_spec x
  have e1 := Nds_low 0 x (t + 1) (fun j hj => h0 j (by omega))
  have hl : (Nds 0 0 x).length = (Nds (0 + (t + 1)) 0 (x / 2 ^ (t + 1))).length + (t + 1) := by
    conv => lhs; rw [e1]
    rw [List.length_append, lowN_len]
  rw [hl, show (Nds (0 + (t + 1)) 0 (x / 2 ^ (t + 1))).length + (t + 1) - 1 - t = (Nds (0 + (t + 1)) 0 (x / 2 ^ (t + 1))).length by omega, e1, List.getElem?_append_right (Nat.le_refl _), Nat.sub_self, lowN, Nat.zero_add]; rfl
theorem Nds_last (z M : Nat) (hM : M % 2 = 1) : Nds 0 0 (M * 2 ^ z) = Nds 0 0 ((M - 1) * 2 ^ z) ++ [(z, M - 1)] := by
  have a := Nds_shift z 0 M
  have b := Nds_shift z 0 (M - 1)
  rw [Nat.zero_mul] at a b
  rw [a, b, Nds_snoc z M, if_pos hM, Nds_snoc z (M - 1), if_neg (by omega), List.append_nil, show (M - 1) / 2 = M / 2 by omega]
theorem and_pred (M : Nat) (hM : M % 2 = 1) : ∀ z, (2 ^ z * M) &&& (2 ^ z * M - 1) = 2 ^ z * (M - 1)
  | 0 => by
    rw [Nat.pow_zero, Nat.one_mul, Nat.one_mul]
    have h1 : (M &&& (M - 1)) / 2 = (M - 1) / 2 := by
      rw [Nat.and_div_two, show M / 2 = (M - 1) / 2 by omega, Nat.and_self]
    have h2 : (M &&& (M - 1)) % 2 = 0 := by
      have h := Nat.and_mod_two_pow (a := M) (b := M - 1) (n := 1)
      rw [Nat.pow_one, show (M - 1) % 2 = 0 by omega, Nat.and_zero] at h
      exact h
    omega
  | z + 1 => by
    have ih := and_pred M hM z
    have hp := Nat.two_pow_pos z
    have e : 2 ^ (z + 1) * M = 2 * (2 ^ z * M) := by rw [Nat.pow_succ]; ac_rfl
    have e' : 2 ^ (z + 1) * (M - 1) = 2 * (2 ^ z * (M - 1)) := by rw [Nat.pow_succ]; ac_rfl
    have hpos : 0 < 2 ^ z * M := Nat.mul_pos hp (by omega)
    rw [e, e']
    have h1 : (2 * (2 ^ z * M) &&& (2 * (2 ^ z * M) - 1)) / 2 = 2 ^ z * (M - 1) := by
      rw [Nat.and_div_two, show 2 * (2 ^ z * M) / 2 = 2 ^ z * M by omega, show (2 * (2 ^ z * M) - 1) / 2 = 2 ^ z * M - 1 by omega]
      exact ih
    have h2 : (2 * (2 ^ z * M) &&& (2 * (2 ^ z * M) - 1)) % 2 = 0 := by
      have h := Nat.and_mod_two_pow (a := 2 * (2 ^ z * M)) (b := 2 * (2 ^ z * M) - 1) (n := 1)
      rw [Nat.pow_one, show 2 * (2 ^ z * M) % 2 = 0 by omega, Nat.zero_and] at h
      exact h
    omega
theorem tzn_spec {x : Nat} (h : 0 < x) : x = 2 ^ tzn x * (x / 2 ^ tzn x) ∧ x / 2 ^ tzn x % 2 = 1 := by
  obtain ⟨h1, h2, h3⟩ := lev_spec x (2 * x) (by omega)
  have h1 : x % 2 ^ tzn x = 0 := h1
  have e : x = 2 ^ tzn x * (x / 2 ^ tzn x) := by
    have := Nat.div_add_mod x (2 ^ tzn x); omega
  refine ⟨e, ?_⟩
  rcases Nat.mod_two_eq_zero_or_one (x / 2 ^ tzn x) with h4 | h4
  · exfalso
    obtain ⟨q, hq⟩ : ∃ q, x / 2 ^ tzn x = 2 * q := ⟨x / 2 ^ tzn x / 2, by omega⟩
    rw [hq] at e
    have e2 : x = 2 ^ (tzn x + 1) * q := by
      rw [Nat.pow_succ, Nat.mul_assoc]; exact e
    have h5 : x % 2 ^ (tzn x + 1) = 0 := by
      have := Nat.mul_mod_right (2 ^ (tzn x + 1)) q
      rw [← e2] at this; exact this
    have h6 : 2 * x < x + 2 ^ (tzn x + 1) := h3 h5
    have hq0 : 0 < q := by
      rcases Nat.eq_zero_or_pos q with h | h
      · rw [h, Nat.mul_zero] at e2; omega
      · exact h
    have : 2 ^ (tzn x + 1) ≤ 2 ^ (tzn x + 1) * q := Nat.le_mul_of_pos_right _ hq0
    omega
  · exact h4
theorem odd_succ {M : Nat} (h : M % 2 = 1) : ∃ q, M = q + 1 ∧ (q + 1) % 2 = 1 := ⟨M - 1, by omega, by omega⟩
def zN (n : Nat) : Nat → Nat
  | 0 => n
  | i + 1 => zN n i - 2 ^ tzn (zN n i)
theorem zN_step {n i : Nat} (h : 0 < zN n i) : zN n (i + 1) = 2 ^ tzn (zN n i) * (zN n i / 2 ^ tzn (zN n i) - 1) ∧ Nds 0 0 (zN n i) = Nds 0 0 (zN n (i + 1)) ++ [(tzn (zN n i), zN n i / 2 ^ tzn (zN n i) - 1)] ∧ zN n (i + 1) + 2 ^ tzn (zN n i) = zN n i ∧ (zN n i &&& (zN n i - 1)) = zN n (i + 1) := by
  obtain ⟨e, ho⟩ := tzn_spec h
  obtain ⟨q, hq, hqo⟩ := odd_succ ho
  have e1 : zN n (i + 1) = 2 ^ tzn (zN n i) * q := by
    rw [zN]
    rw [hq, Nat.mul_add, Nat.mul_one] at e
    omega
  have e2 : zN n i = 2 ^ tzn (zN n i) * q + 2 ^ tzn (zN n i) := by rw [hq, Nat.mul_add, Nat.mul_one] at e; exact e
  refine ⟨by rw [hq, Nat.add_sub_cancel]; exact e1, ?_, by omega, ?_⟩
  · have h1 := Nds_last (tzn (zN n i)) (q + 1) hqo
    rw [Nat.add_sub_cancel, Nat.mul_comm q, ← e1, Nat.mul_comm (q + 1), Nat.mul_add, Nat.mul_one, ← e2] at h1
    rw [hq, Nat.add_sub_cancel]
    exact h1
  · have h1 := and_pred (q + 1) hqo (tzn (zN n i))
    rw [Nat.add_sub_cancel, ← e1, Nat.mul_add, Nat.mul_one, ← e2] at h1
    exact h1
theorem zN_pos {n i : Nat} (h : i < (Nds 0 0 n).length) : 0 < zN n i ∧ (Nds 0 0 (zN n i)).length + i = (Nds 0 0 n).length := by
  induction i with
  | zero =>
    refine ⟨?_, rfl⟩
    rcases Nat.eq_zero_or_pos n with h0 | h0
    · subst h0; rw [Nds_empty (Nat.le_refl _)] at h; exact absurd h (Nat.lt_irrefl 0)
    · exact h0
  | succ i ih =>
    obtain ⟨h1, h2⟩ := ih (by omega)
    have h3 := congrArg List.length (zN_step h1).2.1
    rw [List.length_append, List.length_singleton] at h3
    have h4 : (Nds 0 0 (zN n (i + 1))).length + (i + 1) = (Nds 0 0 n).length := by omega
    refine ⟨?_, h4⟩
    rcases Nat.eq_zero_or_pos (zN n (i + 1)) with h0 | h0
    · rw [h0, Nds_empty (Nat.le_refl _)] at h4; simp at h4; omega
    · exact h0
theorem tzn_up {n i : Nat} (h : 0 < zN n i) (h1 : 0 < zN n (i + 1)) : tzn (zN n i) + 1 ≤ tzn (zN n (i + 1)) := by
  obtain ⟨e, ho⟩ := tzn_spec h
  obtain ⟨e1, _, _, _⟩ := zN_step h
  obtain ⟨f, fo⟩ := tzn_spec h1
  apply Nat.le_of_not_lt
  intro hlt
  obtain ⟨T, hT⟩ : ∃ T, tzn (zN n (i + 1)) = T := ⟨_, rfl⟩
  obtain ⟨x, hx⟩ : ∃ x, zN n i / 2 ^ tzn (zN n i) = x := ⟨_, rfl⟩
  rw [hT] at hlt fo
  rw [hx] at ho e1
  obtain ⟨d, hd⟩ : ∃ d, tzn (zN n i) = T + d := ⟨tzn (zN n i) - T, by omega⟩
  obtain ⟨q, hq⟩ : ∃ q, x - 1 = 2 * q := ⟨(x - 1) / 2, by omega⟩
  rw [hq, hd, Nat.pow_add] at e1
  have hp := Nat.two_pow_pos T
  have e4 : 2 ^ T * 2 ^ d * (2 * q) = 2 ^ T * (2 * (2 ^ d * q)) := by ac_rfl
  rw [e1, e4, Nat.mul_div_cancel_left _ hp] at fo
  omega
theorem zN_near {n : Nat} : ∀ i, i < (Nds 0 0 n).length → n < zN n i + 2 ^ tzn (zN n i) ∧ zN n i ≤ n ∧ Nds 0 0 n = Nds 0 0 (zN n i) ++ Nds 0 (zN n i) n
  | 0, h => by
    have hp := Nat.two_pow_pos (tzn (zN n 0))
    refine ⟨by show n < n + _; omega, Nat.le_refl _, ?_⟩
    show _ = Nds 0 0 n ++ Nds 0 n n
    rw [Nds_empty (Nat.le_refl n), List.append_nil]
  | i + 1, h => by
    obtain ⟨h1, h2, h3⟩ := zN_near (n := n) i (by omega)
    have hp0 := (zN_pos (show i < (Nds 0 0 n).length by omega)).1
    have hp1 := (zN_pos h).1
    obtain ⟨s1, s2, s3, _⟩ := zN_step hp0
    have hu := tzn_up hp0 hp1
    have hpw := Nat.pow_le_pow_right (n := 2) (by decide) hu
    have hpp := Nat.two_pow_pos (tzn (zN n i))
    rw [Nat.pow_succ] at hpw
    refine ⟨by omega, by omega, ?_⟩
    have hz : zN n (i + 1) % 2 ^ tzn (zN n i) = 0 := by rw [s1, Nat.mul_mod_right]
    have hlev : lev (zN n (i + 1)) n = tzn (zN n i) := lev_is' (by omega) hz (by omega) (by rw [Nat.pow_succ]; omega)
    rw [Nds_step 0 (zN n (i + 1)) n (by omega), hlev, s3, Nat.zero_add, h3, s2, List.append_assoc]
    have hd : zN n (i + 1) / 2 ^ tzn (zN n i) = zN n i / 2 ^ tzn (zN n i) - 1 := by rw [s1, Nat.mul_div_cancel_left _ hpp]
    rw [hd]; rfl
end Go.Proofs.YtielnphmcaecdaaDoor.Mth
namespace Go.Proofs.YtielnphmcaecdaaDoor.PAll
open Go.RowKit Go.Proofs.YtielnphmcaecdaaDoorW.PrintWords Go.Proofs.YtielnphmcaecdaaDoorW.PrintLast Go.Proofs.YtielnphmcaecdaaDoorW.PrintMore
attribute [local go_sem] max2_int min2_int max_two min_two max_three min_three max_four min_four   -- for this text's walks alone
set_option linter.unusedVariables false
set_option linter.unusedSimpArgs false
def spec_pathIn.f : Nat → Int → Int → Int → Option ((List (S53)))
  | 0, _, _, _ => none
  | k + 1, a0, a1_0, a1_1 => if (IntKind.u64.wrap (a1_1 - a1_0)) = 1 then (some ([] : List (S53))) else ((spec_split.f k (IntKind.u64.wrap (a1_1 - a1_0))).bind fun t359 => (if a0 < (IntKind.u64.wrap (a1_0 + t359)) then ((spec_pathIn.f k a0 a1_0 (IntKind.u64.wrap (a1_0 + t359))).bind fun t360 => ((some (([(⟨IntKind.u64.wrap (a1_0 + t359), a1_1⟩ : S53)] : List (S53)) : List (S53))).bind fun y363 => (if t360.length + y363.length < 8796093022208 then (some (t360 ++ y363)) else (none)))) else ((spec_pathIn.f k a0 (IntKind.u64.wrap (a1_0 + t359)) a1_1).bind fun t369 => ((some (([(⟨a1_0, IntKind.u64.wrap (a1_0 + t359)⟩ : S53)] : List (S53)) : List (S53))).bind fun y372 => (if t369.length + y372.length < 8796093022208 then (some (t369 ++ y372)) else (none))))))
theorem spec_pathIn.mono_l : ∀ k, (∀ y0 y1 y2, LeO (spec_pathIn.f k y0 y1 y2) (spec_pathIn.f (k + 1) y0 y1 y2))
  | 0 => fun _ _ _ r h => by simp [spec_pathIn.f] at h
  | k + 1 => by
    have ih0 := spec_pathIn.mono_l k
    · intro y0 y1 y2
      unfold spec_pathIn.f
      repeat' first
      | (with_reducible exact ih0 _ _ _)
      | (with_reducible exact spec_split.mono _ _)
      | (with_reducible exact LeO.refl _)
      | (with_reducible exact LeO.none _)
      | (with_reducible refine LeO.ite ?_ ?_)
      | (with_reducible refine LeO.bind ?_ (fun _ => ?_))
      | exact ih0 _ _ _
      | exact spec_split.mono _ _
      | exact LeO.none _
      | refine LeO.ite ?_ ?_
      | refine LeO.bind ?_ (fun _ => ?_)
theorem spec_pathIn.mono : ∀ a0 a1 a2 k, LeO (spec_pathIn.f k a0 a1 a2) (spec_pathIn.f (k + 1) a0 a1 a2) := by
  intro a0 a1 a2 k
  have ih0 := spec_pathIn.mono_l k
  exact ih0 a0 a1 a2
def spec_PathParts.f (k : Nat) (a0 : Int) (a1 : Int) : Option ((List (S53))) := (spec_pathIn.f k a0 0 a1).bind fun t378 => (some t378)
theorem spec_PathParts.mono : ∀ a0 a1 k, LeO (spec_PathParts.f k a0 a1) (spec_PathParts.f (k + 1) a0 a1) := by
  intro a0 a1 k
  unfold spec_PathParts.f
  repeat' first
      | (with_reducible exact spec_pathIn.mono _ _ _ _)
      | (with_reducible exact LeO.refl _)
      | (with_reducible exact LeO.none _)
      | (with_reducible refine LeO.ite ?_ ?_)
      | (with_reducible refine LeO.bind ?_ (fun _ => ?_))
      | exact spec_pathIn.mono _ _ _ _
      | exact LeO.none _
      | refine LeO.ite ?_ ?_
      | refine LeO.bind ?_ (fun _ => ?_)
end Go.Proofs.YtielnphmcaecdaaDoor.PAll
namespace Go.Proofs.YtielnphmcaecdaaDoor.PAll
open Go.RowKit Go.Proofs.YtielnphmcaecdaaDoorW.PrintWords Go.Proofs.YtielnphmcaecdaaDoorW.PrintLast Go.Proofs.YtielnphmcaecdaaDoorW.PrintMore
attribute [local go_sem] max2_int min2_int max_two min_two max_three min_three max_four min_four   -- for this text's walks alone
set_option linter.unusedVariables false
set_option linter.unusedSimpArgs false
def spec_Root.f : Nat → Int → Int → Int → Int → Int → Int → List (List Int) → Option (List Int)
  | 0, _, _, _, _, _, _, _ => none
  | k + 1, a0_0, a0_1, a0_2, a0_3, a0_4, a0_5, l1 => if (l1.length : Int) = 0 then ((spec_EmptyRoot.f k a0_0 a0_1 a0_2 a0_3 a0_4 a0_5).bind fun t265 => (some t265)) else (if (l1.length : Int) = 1 then (if 0 < (l1.length : Int) then (some (rd_L1 l1 0)) else (none)) else ((spec_split.f k (IntKind.u64.wrap ((l1.length : Int)))).bind fun t269 => (if 0 ≤ t269 then (if t269 ≤ (l1.length : Int) then ((spec_Root.f k a0_0 a0_1 a0_2 a0_3 a0_4 a0_5 (l1.take (t269 : Int).toNat)).bind fun t275 => ((spec_Root.f k a0_0 a0_1 a0_2 a0_3 a0_4 a0_5 (l1.drop (t269 : Int).toNat)).bind fun t283 => ((spec_HashChildren.f k a0_0 a0_1 a0_2 a0_3 a0_4 a0_5 t275 t283).bind fun t286 => (some t286)))) else (none)) else (none))))
theorem spec_Root.mono_l : ∀ k, (∀ y0 y1 y2 y3 y4 y5 y6, LeO (spec_Root.f k y0 y1 y2 y3 y4 y5 y6) (spec_Root.f (k + 1) y0 y1 y2 y3 y4 y5 y6))
  | 0 => fun _ _ _ _ _ _ _ r h => by simp [spec_Root.f] at h
  | k + 1 => by
    have ih0 := spec_Root.mono_l k
    · intro y0 y1 y2 y3 y4 y5 y6
      unfold spec_Root.f
      repeat' first
      | (with_reducible exact ih0 _ _ _ _ _ _ _)
      | (with_reducible exact spec_EmptyRoot.mono _ _ _ _ _ _ _)
      | (with_reducible exact spec_HashChildren.mono _ _ _ _ _ _ _ _ _)
      | (with_reducible exact spec_split.mono _ _)
      | (with_reducible exact LeO.refl _)
      | (with_reducible exact LeO.none _)
      | (with_reducible refine LeO.ite ?_ ?_)
      | (with_reducible refine LeO.bind ?_ (fun _ => ?_))
      | exact ih0 _ _ _ _ _ _ _
      | exact spec_EmptyRoot.mono _ _ _ _ _ _ _
      | exact spec_HashChildren.mono _ _ _ _ _ _ _ _ _
      | exact spec_split.mono _ _
      | exact LeO.none _
      | refine LeO.ite ?_ ?_
      | refine LeO.bind ?_ (fun _ => ?_)
theorem spec_Root.mono : ∀ a0 a1 a2 a3 a4 a5 a6 k, LeO (spec_Root.f k a0 a1 a2 a3 a4 a5 a6) (spec_Root.f (k + 1) a0 a1 a2 a3 a4 a5 a6) := by
  intro a0 a1 a2 a3 a4 a5 a6 k
  have ih0 := spec_Root.mono_l k
  exact ih0 a0 a1 a2 a3 a4 a5 a6
mutual
def spec_Nodes.l0 : Nat → List (S49) → Int → Int → Option ((List (S49)))
  | 0, _, _, _ => none
  | k + 1, x3, x290000, x290001 => if x290000 < x290001 then (spec_Nodes.l1 k x3 0 x290000 x290001) else (some x3)
def spec_Nodes.l1 : Nat → List (S49) → Int → Int → Int → Option ((List (S49)))
  | 0, _, _, _, _ => none
  | k + 1, x3, x4, x290000, x290001 => if x4 < 63 then (if 0 ≤ x4 then (if (Go.bits .and .u64 (shr .u64 x290000 x4) 1) = 0 then (if 0 ≤ (IntKind.u64.wrap (x4 + 1)) then (if (shl .u64 1 (IntKind.u64.wrap (x4 + 1))) ≤ (IntKind.u64.wrap (x290001 - x290000)) then (spec_Nodes.l1 k x3 (IntKind.u64.wrap (x4 + 1)) x290000 x290001) else (if x3.length < 8796093022208 then (spec_Nodes.l0 k (x3 ++ [(⟨x4, shr .u64 x290000 x4⟩ : S49)]) (IntKind.u64.wrap (x290000 + (shl .u64 1 x4))) x290001) else (none))) else (none)) else (if x3.length < 8796093022208 then (spec_Nodes.l0 k (x3 ++ [(⟨x4, shr .u64 x290000 x4⟩ : S49)]) (IntKind.u64.wrap (x290000 + (shl .u64 1 x4))) x290001) else (none))) else (none)) else (if 0 ≤ x4 then (if x3.length < 8796093022208 then (spec_Nodes.l0 k (x3 ++ [(⟨x4, shr .u64 x290000 x4⟩ : S49)]) (IntKind.u64.wrap (x290000 + (shl .u64 1 x4))) x290001) else (none)) else (none))
end
def spec_Nodes.f (k : Nat) (a0_0 : Int) (a0_1 : Int) : Option ((List (S49))) := spec_Nodes.l0 k ([] : List (S49)) a0_0 a0_1
theorem spec_Nodes.mono_l : ∀ k, (∀ y0 y1 y2, LeO (spec_Nodes.l0 k y0 y1 y2) (spec_Nodes.l0 (k + 1) y0 y1 y2)) ∧ (∀ y0 y1 y2 y3, LeO (spec_Nodes.l1 k y0 y1 y2 y3) (spec_Nodes.l1 (k + 1) y0 y1 y2 y3))
  | 0 => ⟨fun _ _ _ r h => by simp [spec_Nodes.l0] at h, fun _ _ _ _ r h => by simp [spec_Nodes.l1] at h⟩
  | k + 1 => by
    obtain ⟨ih0, ih1⟩ := spec_Nodes.mono_l k
    refine ⟨?_, ?_⟩
    · intro y0 y1 y2
      unfold spec_Nodes.l0
      repeat' first
      | (with_reducible exact ih0 _ _ _)
      | (with_reducible exact ih1 _ _ _ _)
      | (with_reducible exact LeO.refl _)
      | (with_reducible exact LeO.none _)
      | (with_reducible refine LeO.ite ?_ ?_)
      | (with_reducible refine LeO.bind ?_ (fun _ => ?_))
      | exact ih0 _ _ _
      | exact ih1 _ _ _ _
      | exact LeO.none _
      | refine LeO.ite ?_ ?_
      | refine LeO.bind ?_ (fun _ => ?_)
    · intro y0 y1 y2 y3
      unfold spec_Nodes.l1
      repeat' first
      | (with_reducible exact ih0 _ _ _)
      | (with_reducible exact ih1 _ _ _ _)
      | (with_reducible exact LeO.refl _)
      | (with_reducible exact LeO.none _)
      | (with_reducible refine LeO.ite ?_ ?_)
      | (with_reducible refine LeO.bind ?_ (fun _ => ?_))
      | exact ih0 _ _ _
      | exact ih1 _ _ _ _
      | exact LeO.none _
      | refine LeO.ite ?_ ?_
      | refine LeO.bind ?_ (fun _ => ?_)
theorem spec_Nodes.mono : ∀ a0 a1 k, LeO (spec_Nodes.f k a0 a1) (spec_Nodes.f (k + 1) a0 a1) := by
  intro a0 a1 k
  obtain ⟨ih0, ih1⟩ := spec_Nodes.mono_l k
  unfold spec_Nodes.f
  repeat' first
      | (with_reducible exact ih0 _ _ _)
      | (with_reducible exact ih1 _ _ _ _)
      | (with_reducible exact LeO.refl _)
      | (with_reducible exact LeO.none _)
      | (with_reducible refine LeO.ite ?_ ?_)
      | (with_reducible refine LeO.bind ?_ (fun _ => ?_))
      | exact ih0 _ _ _
      | exact ih1 _ _ _ _
      | exact LeO.none _
      | refine LeO.ite ?_ ?_
      | refine LeO.bind ?_ (fun _ => ?_)
end Go.Proofs.YtielnphmcaecdaaDoor.PAll
namespace Go.Proofs.YtielnphmcaecdaaDoor.PAll
open Go.RowKit Go.Proofs.YtielnphmcaecdaaDoor.Num Go.Proofs.YtielnphmcaecdaaDoor.Mth Go.Proofs.YtielnphmcaecdaaDoorW.PrintWords Go.Proofs.YtielnphmcaecdaaDoorW.PrintLast
theorem tz_pow (l : Nat) (h : l < 64) : tzTab.getD (2 ^ l * 285870213051353865 % 18446744073709551616 / 288230376151711744) 0 = (l : Int) := by
  revert l; decide +kernel
theorem bits_TrailingZeros64.eq (l M : Nat) (hM : M % 2 = 1) (hx : 2 ^ l * M < 18446744073709551616) : bits_TrailingZeros64.f ((2 ^ l * M : Nat) : Int) = some ((l : Nat) : Int) := by
  have hp := Nat.two_pow_pos l
  have hl : l < 64 := by
    rcases Nat.lt_or_ge l 64 with h | h
    · exact h
    · have h1 : 2 ^ 64 ≤ 2 ^ l := Nat.pow_le_pow_right (by decide) h
      have h2 : 2 ^ l * 1 ≤ 2 ^ l * M := Nat.mul_le_mul_left _ (by omega)
      omega
  have hlt : 2 ^ l < 18446744073709551616 := pow_lt64 (by omega)
  have hpos : 0 < 2 ^ l * M := Nat.mul_pos hp (by omega)
  have h64 : (18446744073709551616 : Nat) = 2 ^ l * 2 ^ (64 - l) := by rw [← Nat.pow_add, show l + (64 - l) = 64 by omega]
  have hML : M < 2 ^ (64 - l) := by
    rw [h64] at hx
    exact Nat.lt_of_mul_lt_mul_left hx
  have hneg : IntKind.u64.wrap (-((2 ^ l * M : Nat) : Int)) = ((18446744073709551616 - 2 ^ l * M : Nat) : Int) := by rw [u64w]; omega
  have hand : (2 ^ l * M) &&& (18446744073709551616 - 2 ^ l * M) = 2 ^ l := by
    rw [h64, ← Nat.mul_sub, and_mul_pow, and_neg_odd _ _ hM hML, Nat.mul_one]
  have hi : tzIdx ((2 ^ l * M : Nat) : Int) = ((2 ^ l * 285870213051353865 % 18446744073709551616 / 288230376151711744 : Nat) : Int) := by
    unfold tzIdx
    rw [hneg, and64 _ _ hx (by omega), hand]
    have e1 : ((2 ^ l : Nat) : Int) * 285870213051353865 = ((2 ^ l * 285870213051353865 : Nat) : Int) := by rw [Int.natCast_mul]; rfl
    rw [e1, u64n]
    exact ndiv _ 288230376151711744
  unfold bits_TrailingZeros64.f
  rw [if_neg (by omega), hi, Int.toNat_natCast, tz_pow l hl]
def masks (b e : Nat) : Nat × Nat := if b = 0 then (0, e) else (negm (fork (b - 1) e - 1) b, e % 2 ^ (fork (b - 1) e - 1))
theorem fork_pos {x e : Nat} (h : x < e) : 0 < fork x e := by
  rcases Nat.eq_zero_or_pos (fork x e) with h1 | h1
  · have := fork_eq x e
    rw [h1] at this; simp at this; omega
  · exact h1
theorem fork_below {x e : Nat} (h : x < e) : x / 2 ^ (fork x e - 1) + 1 = e / 2 ^ (fork x e - 1) := by
  have h1 := fork_pos h
  have h2 : ¬ fork x e ≤ fork x e - 1 := by omega
  rw [fork_le] at h2
  have h3 := fork_eq x e
  rw [show fork x e = fork x e - 1 + 1 by omega, Nat.pow_succ, ← Nat.div_div_eq_div_mul, ← Nat.div_div_eq_div_mul] at h3
  have h4 := Nat.div_le_div_right (c := 2 ^ (fork x e - 1)) (Nat.le_of_lt h)
  omega
theorem compact_Decompose.eq (b e : Nat) (h : b ≤ e) (he : e < 18446744073709551616) (k : Nat) : compact_Decompose.f (k + 1) (b : Int) (e : Int) = some (((masks b e).1 : Int), ((masks b e).2 : Int)) := by
  unfold compact_Decompose.f masks
  by_cases h0 : b = 0
  · rw [if_pos (by omega), if_pos h0]; rfl
  · have hx : (b - 1) ^^^ e < 18446744073709551616 := Nat.xor_lt_two_pow (n := 64) (by omega) (by omega)
    have hf := blen_lt64 hx
    have hp := fork_pos (x := b - 1) (e := e) (by omega)
    have hbel := fork_below (x := b - 1) (e := e) (by omega)
    have e1 : IntKind.u64.wrap ((b : Int) - 1) = ((b - 1 : Nat) : Int) := u64sub (a := b) (b := 1) (by omega) (by omega)
    rw [if_neg (by omega), if_neg h0, e1, xor64 _ _ (by omega) he, bits_Len64.eq _ _ hx]
    clear e1
    rw [show blen ((b - 1) ^^^ e) = fork (b - 1) e from rfl] at hf ⊢
    rw [Option.bind_some]
    generalize hd : fork (b - 1) e = D at *
    obtain ⟨d, rfl⟩ : ∃ d, D = d + 1 := ⟨D - 1, by omega⟩
    rw [Nat.add_sub_cancel] at *
    have hd2 := pow_lt64 (k := d) (by omega)
    have hdp := Nat.two_pow_pos d
    have hmd : (b - 1) % 2 ^ d < 2 ^ d := Nat.mod_lt _ hdp
    have hme : e % 2 ^ d < 2 ^ d := Nat.mod_lt _ hdp
    have hmask : (18446744073709551615 ^^^ (b - 1)) &&& (2 ^ d - 1) = negm d b := by
      rw [Nat.and_two_pow_sub_one_eq_mod, Nat.xor_mod_two_pow]
      have h1 : 18446744073709551615 % 2 ^ d = 2 ^ d - 1 := by
        have : (18446744073709551615 : Nat) = 2 ^ 64 - 1 := rfl
        rw [this]
        have h2 : 2 ^ 64 = 2 ^ d * 2 ^ (64 - d) := by rw [← Nat.pow_add, show d + (64 - d) = 64 by omega]
        have h3 := Nat.two_pow_pos (64 - d)
        obtain ⟨c, hc⟩ : ∃ c, 2 ^ (64 - d) = c + 1 := ⟨2 ^ (64 - d) - 1, by omega⟩
        rw [h2, hc, Nat.mul_add, Nat.mul_one, Nat.add_sub_assoc (by omega), Nat.mul_add_mod, Nat.mod_eq_of_lt (by omega)]
      rw [h1]
      have h4 : (2 ^ d - 1) ^^^ ((b - 1) % 2 ^ d) = 2 ^ d - ((b - 1) % 2 ^ d + 1) := by
        apply Nat.eq_of_testBit_eq
        intro i
        rw [Nat.testBit_xor, Nat.testBit_two_pow_sub_one, Nat.testBit_two_pow_sub_succ hmd, Nat.testBit_mod_two_pow]
        by_cases h5 : i < d <;> simp [h5]
      rw [h4]
      unfold negm
      have h6 : b % 2 ^ d = ((b - 1) % 2 ^ d + 1) % 2 ^ d := by
        have := Nat.add_mod (b - 1) 1 (2 ^ d)
        rw [show b - 1 + 1 = b by omega] at this
        rw [this, Nat.add_mod ((b - 1) % 2 ^ d) 1, Nat.mod_mod]
      rw [h6]
      by_cases h7 : (b - 1) % 2 ^ d + 1 = 2 ^ d
      · rw [h7, Nat.mod_self, Nat.sub_self, Nat.sub_zero, Nat.mod_self]
      · clear h6 h4 hbel
        generalize (b - 1) % 2 ^ d = r at *
        rw [Nat.mod_eq_of_lt (show r + 1 < 2 ^ d by omega), Nat.mod_eq_of_lt (show 2 ^ d - (r + 1) < 2 ^ d by omega)]
    have w1 : wrap64 (((d + 1 : Nat) : Int) - 1) = (d : Int) := by
      rw [show ((d + 1 : Nat) : Int) - 1 = (d : Int) by omega]; exact w64 (by omega)
    have w3 : IntKind.u64.wrap (((2 ^ d : Nat) : Int) - 1) = ((2 ^ d - 1 : Nat) : Int) := u64sub (a := 2 ^ d) (b := 1) hdp hd2
    have w4 : Go.bits .xor .u64 18446744073709551615 ((b - 1 : Nat) : Int) = ((18446744073709551615 ^^^ (b - 1) : Nat) : Int) := xor64 18446744073709551615 (b - 1) (by decide) (by omega)
    have hb1 : 18446744073709551615 ^^^ (b - 1) < 18446744073709551616 := Nat.xor_lt_two_pow (n := 64) (by decide) (by omega)
    have hm1 : 2 ^ d - 1 < 18446744073709551616 := by omega
    have hdd : d < 18446744073709551616 := by omega
    have hs := shl_one (k := d) (by omega)
    rw [w1, u64in hdd, if_pos (Int.natCast_nonneg d), hs, w3, w4, and64 _ _ hb1 hm1, and64 _ _ he hm1, hmask, Nat.and_two_pow_sub_one_eq_mod]
def cnode (p : Nat × Nat) : S99 := ⟨(p.1 : Int), (p.2 : Int)⟩
theorem shr_mul (l B : Nat) (hl : l ≤ 64) : shr .u64 ((2 ^ l * B : Nat) : Int) (l : Int) = (B : Int) := by
  rw [shr64, Nat.min_eq_left hl, Nat.mul_div_cancel_left _ (Nat.two_pow_pos l)]
theorem left_loop (n : Nat) : ∀ (l B : Nat) (out : List S99) (R : Int) (k : Nat), l + n ≤ 63 → 2 ^ (l + n) * ((B + (2 ^ n - 1)) / 2 ^ n) < 18446744073709551616 → out.length + n < 8796093022208 →
    compact_RangeNodes.l0 (k + (Lft l n B).length + 1) out ((2 ^ l * negm n B : Nat) : Int) R ((2 ^ l * B : Nat) : Int) = compact_RangeNodes.l1 k (out ++ (Lft l n B).map cnode) R ((2 ^ (l + n) * ((B + (2 ^ n - 1)) / 2 ^ n) : Nat) : Int) := by
  induction n with
  | zero =>
    intro l B out R k _ _ _
    rw [negm_zero, compact_RangeNodes.l0, if_pos (by simp)]
    simp [Lft]
  | succ n ih =>
    intro l B out R k hl hb ho
    have hup : (B + (2 ^ (n + 1) - 1)) / 2 ^ (n + 1) = ((B + 1) / 2 + (2 ^ n - 1)) / 2 ^ n := by
      have hp := Nat.two_pow_pos n
      rw [pow_up, ← Nat.div_div_eq_div_mul]
      congr 1; omega
    rw [hup] at hb ⊢
    have e1 : l + (n + 1) = l + 1 + n := by omega
    rw [e1] at hb ⊢
    have ihh := ih (l + 1) ((B + 1) / 2)
    have hp1 : 2 ^ (l + 1) = 2 ^ l * 2 := Nat.pow_succ 2 l
    by_cases h : B % 2 = 1
    · have h1 := negm_odd n B h
      have hL : Lft l (n + 1) B = (l, B) :: Lft (l + 1) n ((B + 1) / 2) := by rw [Lft, if_pos h]; rfl
      have hlarge : 2 ^ (l + 1) * ((B + 1) / 2) ≤ 2 ^ (l + 1 + n) * (((B + 1) / 2 + (2 ^ n - 1)) / 2 ^ n) := by
        have hp := Nat.two_pow_pos n
        rw [Nat.pow_add 2 (l + 1) n, Nat.mul_assoc]
        apply Nat.mul_le_mul_left
        have := Nat.div_add_mod ((B + 1) / 2 + (2 ^ n - 1)) (2 ^ n)
        have := Nat.mod_lt ((B + 1) / 2 + (2 ^ n - 1)) hp
        omega
      have hB : 2 ^ l * B + 2 ^ l = 2 ^ (l + 1) * ((B + 1) / 2) := by
        rw [hp1, Nat.mul_assoc, show 2 * ((B + 1) / 2) = B + 1 by omega, Nat.mul_add, Nat.mul_one]
      have hM : 2 ^ l * negm (n + 1) B < 18446744073709551616 := by
        have h2 : negm (n + 1) B < 2 ^ (n + 1) := Nat.mod_lt _ (Nat.two_pow_pos _)
        have h3 : 2 ^ l * negm (n + 1) B < 2 ^ l * 2 ^ (n + 1) := Nat.mul_lt_mul_of_pos_left h2 (Nat.two_pow_pos l)
        rw [← Nat.pow_add] at h3
        exact Nat.lt_trans h3 (pow_lt64 (by omega))
      have hl64 := pow_lt64 (k := l) (by omega)
      have hx : (2 ^ l * negm (n + 1) B) ^^^ 2 ^ l = 2 ^ (l + 1) * negm n ((B + 1) / 2) := by
        have := xor_mul_pow l (negm (n + 1) B) 1
        rw [Nat.mul_one] at this
        rw [this, xor_one_odd (by omega), h1, Nat.add_sub_cancel, hp1, Nat.mul_assoc]
      have hpos : 0 < 2 ^ l * negm (n + 1) B := Nat.mul_pos (Nat.two_pow_pos l) (by omega)
      have htz := bits_TrailingZeros64.eq l (negm (n + 1) B) (by omega) hM
      have hll : l < 18446744073709551616 := by omega
      have hadd := u64add (a := 2 ^ l * B) (b := 2 ^ l) (by omega)
      have hxx := xor64 _ _ hM hl64
      have hs1 := shl_one (k := l) (by omega)
      have hsr := shr_mul l B (by omega)
      have hne : ¬ ((2 ^ l * negm (n + 1) B : Nat) : Int) = 0 := by omega
      have hlen : out.length < 8796093022208 := by omega
      have hi := ihh (out ++ [cnode (l, B)]) R k (by omega) hb (by simp; omega)
      rw [hL, List.length_cons, show k + ((Lft (l + 1) n ((B + 1) / 2)).length + 1) + 1 = (k + (Lft (l + 1) n ((B + 1) / 2)).length + 1) + 1 by omega]
      rw [compact_RangeNodes.l0, if_neg hne, htz, Option.bind_some, u64in hll, if_pos (Int.natCast_nonneg l), hsr, hs1, hxx, hx, hadd, hB]
      show (if out.length < 8796093022208 then compact_RangeNodes.l0 _ (out ++ [cnode (l, B)]) _ R _ else none) = _
      rw [if_pos hlen, hi, List.map_cons, List.append_assoc]; rfl
    · have h1 := negm_even n B (by omega)
      have hL : Lft l (n + 1) B = Lft (l + 1) n ((B + 1) / 2) := by rw [Lft, if_neg h]; rfl
      have e2 : 2 ^ l * negm (n + 1) B = 2 ^ (l + 1) * negm n ((B + 1) / 2) := by rw [h1, hp1, Nat.mul_assoc, show (B + 1) / 2 = B / 2 by omega]
      have e3 : 2 ^ l * B = 2 ^ (l + 1) * ((B + 1) / 2) := by rw [hp1, Nat.mul_assoc, show 2 * ((B + 1) / 2) = B by omega]
      rw [hL, e2, e3]
      exact ihh out R k (by omega) hb (by omega)
theorem right_loop (n e : Nat) (he : e < 18446744073709551616) : ∀ (out : List S99) (k : Nat), n ≤ 64 → out.length + n < 8796093022208 →
    compact_RangeNodes.l1 (k + (RgtT n e).length + 2) out ((e % 2 ^ n : Nat) : Int) ((e / 2 ^ n * 2 ^ n : Nat) : Int) = some (out ++ (RgtT n e).map cnode) := by
  induction n with
  | zero =>
    intro out k _ _
    rw [compact_RangeNodes.l1, if_pos (by simp [Nat.mod_one])]
    simp [RgtT]
  | succ n ih =>
    intro out k hn ho
    have hp := Nat.two_pow_pos n
    have hq : e / 2 ^ (n + 1) = e / 2 ^ n / 2 := by rw [Nat.pow_succ, Nat.div_div_eq_div_mul]
    have hm : e % 2 ^ (n + 1) = e % 2 ^ n + 2 ^ n * (e / 2 ^ n % 2) := by rw [Nat.pow_succ, Nat.mod_mul]
    have hle : e / 2 ^ n * 2 ^ n ≤ e := Nat.div_mul_le_self e (2 ^ n)
    have hodd : e / 2 ^ n % 2 = 1 → e / 2 ^ n / 2 * 2 = e / 2 ^ n - 1 ∧ e / 2 ^ n - 1 + 1 = e / 2 ^ n := by
      generalize e / 2 ^ n = q; omega
    have heven : e / 2 ^ n % 2 = 0 → e / 2 ^ n / 2 * 2 = e / 2 ^ n := by
      generalize e / 2 ^ n = q; omega
    by_cases h : e / 2 ^ n % 2 = 1
    · have hL : RgtT (n + 1) e = (n, e / 2 ^ n - 1) :: RgtT n e := by rw [RgtT, if_pos h]; rfl
      have hr : e % 2 ^ n < 2 ^ n := Nat.mod_lt _ hp
      have hm1 : e % 2 ^ (n + 1) = 2 ^ n + e % 2 ^ n := by rw [hm, h]; omega
      have hpos : e / 2 ^ (n + 1) * 2 ^ (n + 1) = 2 ^ n * (e / 2 ^ n - 1) := by
        rw [hq, Nat.pow_succ, ← Nat.mul_assoc, Nat.mul_right_comm, (hodd h).1, Nat.mul_comm]
      have hsum : 2 ^ n * (e / 2 ^ n - 1) + 2 ^ n = e / 2 ^ n * 2 ^ n := by
        rw [← Nat.mul_succ, Nat.succ_eq_add_one, (hodd h).2, Nat.mul_comm]
      have hn64 := pow_lt64 (k := n) (by omega)
      have hbl : blen (2 ^ n + e % 2 ^ n) = n + 1 := blen_unique (by omega) (by rw [Nat.pow_succ]; omega)
      have hrl : 2 ^ n + e % 2 ^ n < 18446744073709551616 := by
        have := Nat.mod_le e (2 ^ (n + 1)); omega
      have hlen64 := bits_Len64.eq (k + (RgtT n e).length + 1) _ hrl
      rw [hbl] at hlen64
      have hw1 : IntKind.u64.wrap (IntKind.u64.wrap ((n + 1 : Nat) : Int) - 1) = (n : Int) := by
        rw [u64in (by omega)]
        exact u64sub (a := n + 1) (b := 1) (by omega) (by omega)
      have hadd := u64add (a := 2 ^ n * (e / 2 ^ n - 1)) (b := 2 ^ n) (by omega)
      have hxx := xor64 _ _ hrl hn64
      rw [xor_top hr] at hxx
      have hs1 := shl_one (k := n) (by omega)
      have hsr := shr_mul n (e / 2 ^ n - 1) (by omega)
      have hne : ¬ ((2 ^ n + e % 2 ^ n : Nat) : Int) = 0 := by omega
      have hlen : out.length < 8796093022208 := by omega
      have hi := ih (out ++ [cnode (n, e / 2 ^ n - 1)]) k (by omega) (by simp; omega)
      rw [hL, List.length_cons, show k + ((RgtT n e).length + 1) + 2 = (k + (RgtT n e).length + 2) + 1 by omega, hm1, hpos]
      rw [compact_RangeNodes.l1, if_neg hne, hlen64, Option.bind_some, hw1, if_pos (Int.natCast_nonneg n), hsr, hs1, hxx, hadd, hsum]
      show (if out.length < 8796093022208 then compact_RangeNodes.l1 _ (out ++ [cnode (n, e / 2 ^ n - 1)]) _ _ else none) = _
      rw [if_pos hlen, hi, List.map_cons, List.append_assoc]; rfl
    · have h0 : e / 2 ^ n % 2 = 0 := by omega
      have hL : RgtT (n + 1) e = RgtT n e := by rw [RgtT, if_neg h]; rfl
      have hm1 : e % 2 ^ (n + 1) = e % 2 ^ n := by rw [hm, h0]; simp
      have hpos : e / 2 ^ (n + 1) * 2 ^ (n + 1) = e / 2 ^ n * 2 ^ n := by
        rw [hq, Nat.pow_succ, ← Nat.mul_assoc, Nat.mul_right_comm, heven h0]
      rw [hL, hm1, hpos]
      exact ih out k (by omega) (by omega)
end Go.Proofs.YtielnphmcaecdaaDoor.PAll
