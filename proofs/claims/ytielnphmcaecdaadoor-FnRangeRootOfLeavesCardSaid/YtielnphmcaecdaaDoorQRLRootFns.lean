-- Written by a program of this session (wip/tools)
import Derived.Test.YtielnphmcaecdaaDoorQRLExtRangeF
import Derived.Test.YtielnphmcaecdaaDoorQRLExtTz
import Derived.Test.YtielnphmcaecdaaDoorQRLExtTreeA
import Derived.Laws.Bits128
import Derived.KernelRfl
import Derived.Test.YtielnphmcaecdaaDoorQRLPAllx0
import Derived.Test.YtielnphmcaecdaaDoorQRLPAllx6
import Derived.Test.YtielnphmcaecdaaDoorQRLPAllx4
import Derived.Test.YtielnphmcaecdaaDoorQRLPAllx10
import Derived.Test.YtielnphmcaecdaaDoorQRLExtRangeA2
namespace Go.Proofs.YtielnphmcaecdaaDoor.Mth
def seg (L : List (List Int)) (b e : Nat) : List (List Int) := (L.take e).drop b
theorem seg_length {L : List (List Int)} {b e : Nat} (h : e ≤ L.length) : (seg L b e).length = e - b := by
  unfold seg; rw [List.length_drop, List.length_take]; omega
theorem seg_take {L : List (List Int)} {b e k : Nat} (h : b + k ≤ e) : (seg L b e).take k = seg L b (b + k) := by
  unfold seg
  rw [List.take_drop, List.take_take, Nat.min_eq_left h]
theorem seg_drop {L : List (List Int)} {b e k : Nat} : (seg L b e).drop k = seg L (b + k) e := by
  unfold seg
  rw [List.drop_drop]
theorem seg_one {L : List (List Int)} {b : Nat} (h : b < L.length) : seg L b (b + 1) = [L[b]] := by
  unfold seg
  rw [List.drop_take, Nat.add_sub_cancel_left, List.drop_eq_getElem_cons h]; rfl
theorem seg_zero (L : List (List Int)) (e : Nat) : seg L 0 e = L.take e := by unfold seg; rw [List.drop_zero]
theorem seg_bound {L : List (List Int)} {b e m : Nat} (h : ∀ x ∈ L, x.length ≤ m) : ∀ x ∈ seg L b e, x.length ≤ m := fun x hx => h x (List.mem_of_mem_take (List.mem_of_mem_drop hx))
def mth (H : List Int → List Int → List Int) (E : List Int) (L : List (List Int)) : List Int :=
  if _h : L.length ≤ 1 then L.headD E else H (mth H E (L.take (psplit L.length))) (mth H E (L.drop (psplit L.length)))
termination_by L.length
decreasing_by
  · have := psplit_lt (n := L.length) (by omega); rw [List.length_take]; omega
  · have := psplit_pos L.length; rw [List.length_drop]; omega
theorem mth_one (H : List Int → List Int → List Int) (E x : List Int) : mth H E [x] = x := by rw [mth, dif_pos (by simp)]; rfl
theorem mth_nil (H : List Int → List Int → List Int) (E : List Int) : mth H E [] = E := by rw [mth, dif_pos (by simp)]; rfl
theorem mth_split (H : List Int → List Int → List Int) (E : List Int) {L : List (List Int)} (h : 2 ≤ L.length) : mth H E L = H (mth H E (L.take (psplit L.length))) (mth H E (L.drop (psplit L.length))) := by
  rw [mth, dif_neg (by omega)]
theorem mth_seg (H : List Int → List Int → List Int) (E : List Int) {L : List (List Int)} {b e : Nat} (he : e ≤ L.length) (h : 2 ≤ e - b) : mth H E (seg L b e) = H (mth H E (seg L b (b + psplit (e - b)))) (mth H E (seg L (b + psplit (e - b)) e)) := by
  have hl := seg_length (b := b) he
  have hp := psplit_lt h
  rw [mth_split H E (by omega), hl, seg_take (by omega), seg_drop]
def Grows (H : List Int → List Int → List Int) : Prop := ∀ l r, (H l r).length ≤ 9 + l.length + r.length
theorem mth_length {H : List Int → List Int → List Int} (hH : Grows H) (E : List Int) (m : Nat) : ∀ (n : Nat) (L : List (List Int)), L.length = n → 0 < n → (∀ x ∈ L, x.length ≤ m) → (mth H E L).length + 9 ≤ (m + 9) * n := by
  intro n
  induction n using Nat.strongRecOn with
  | _ n ih =>
  intro L hL hn hm
  by_cases h1 : n = 1
  · obtain ⟨x, rfl⟩ : ∃ x, L = [x] := by
      match L, hL with
      | [x], _ => exact ⟨x, rfl⟩
      | [], h => simp at h; omega
      | _ :: _ :: _, h => simp at h; omega
    rw [mth_one, h1]
    have := hm x (by simp)
    omega
  · have h2 : 2 ≤ L.length := by omega
    have hp := psplit_lt h2
    have hp0 := psplit_pos L.length
    have i1 := ih (psplit L.length) (by omega) (L.take (psplit L.length)) (by rw [List.length_take]; omega) hp0 (fun x hx => hm x (List.mem_of_mem_take hx))
    have i2 := ih (L.length - psplit L.length) (by omega) (L.drop (psplit L.length)) (by rw [List.length_drop]) (by omega) (fun x hx => hm x (List.mem_of_mem_drop hx))
    have hh := hH (mth H E (L.take (psplit L.length))) (mth H E (L.drop (psplit L.length)))
    rw [mth_split H E h2]
    have e : (m + 9) * n = (m + 9) * psplit L.length + (m + 9) * (L.length - psplit L.length) := by rw [← Nat.mul_add]; congr 1; omega
    omega
theorem mth_perfect (H : List Int → List Int → List Int) (E : List Int) {L : List (List Int)} {i j : Nat} (h : (j + 1) * 2 ^ (i + 1) ≤ L.length) :
    mth H E (seg L (j * 2 ^ (i + 1)) ((j + 1) * 2 ^ (i + 1))) = H (mth H E (seg L (2 * j * 2 ^ i) ((2 * j + 1) * 2 ^ i))) (mth H E (seg L ((2 * j + 1) * 2 ^ i) ((2 * j + 1 + 1) * 2 ^ i))) := by
  have hp := Nat.two_pow_pos i
  have e1 : j * 2 ^ (i + 1) = 2 * j * 2 ^ i := by rw [Nat.pow_succ]; ac_rfl
  have e2 : (2 * j + 1) * 2 ^ i = 2 * j * 2 ^ i + 2 ^ i := by rw [Nat.add_mul, Nat.one_mul]
  have e3 : (j + 1) * 2 ^ (i + 1) = (2 * j + 1 + 1) * 2 ^ i := by rw [show 2 * j + 1 + 1 = 2 * (j + 1) by omega, Nat.pow_succ]; ac_rfl
  have e4 : (2 * j + 1 + 1) * 2 ^ i = 2 * j * 2 ^ i + 2 ^ i + 2 ^ i := by rw [Nat.add_mul, e2, Nat.one_mul]
  have e5 : (j + 1) * 2 ^ (i + 1) - j * 2 ^ (i + 1) = 2 ^ (i + 1) := by rw [e1, e3, e4, Nat.pow_succ]; omega
  rw [mth_seg H E h (by rw [e5, Nat.pow_succ]; omega), e5, psplit_pow, e1, ← e2, e3]
theorem Nds_in (e : Nat) : ∀ (d b : Nat), e - b = d → ∀ p ∈ Nds 0 b e, b ≤ p.2 * 2 ^ p.1 ∧ (p.2 + 1) * 2 ^ p.1 ≤ e := by
  intro d
  induction d using Nat.strongRecOn with
  | _ d ih =>
  intro b hd p hp
  by_cases h : b < e
  · obtain ⟨s1, s2, _⟩ := lev_spec b e h
    have hpos := Nat.two_pow_pos (lev b e)
    rw [Nds_step 0 b e h, Nat.zero_add] at hp
    rcases List.mem_cons.mp hp with rfl | hp
    · have := Nat.div_add_mod b (2 ^ lev b e)
      rw [s1, Nat.add_zero] at this
      show b ≤ b / 2 ^ lev b e * 2 ^ lev b e ∧ (b / 2 ^ lev b e + 1) * 2 ^ lev b e ≤ e
      rw [Nat.add_mul, Nat.mul_comm (b / _), this]; omega
    · have := ih (e - (b + 2 ^ lev b e)) (by omega) (b + 2 ^ lev b e) rfl p hp
      omega
  · rw [Nds_empty (by omega)] at hp
    cases hp
def foldR (H : List Int → List Int → List Int) (E : List Int) : List (List Int) → List Int
  | [] => E
  | [x] => x
  | x :: y :: l => H x (foldR H E (y :: l))
theorem foldR_step {H : List Int → List Int → List Int} {E x : List Int} {l : List (List Int)} (h : l ≠ []) : foldR H E (x :: l) = H x (foldR H E l) := by
  cases l with
  | nil => exact absurd rfl h
  | cons y l => rfl
def nodeH (H : List Int → List Int → List Int) (E : List Int) (L : List (List Int)) (p : Nat × Nat) : List Int := mth H E (seg L (p.2 * 2 ^ p.1) ((p.2 + 1) * 2 ^ p.1))
theorem lev_is' {b e κ : Nat} (h : b < e) (h1 : b % 2 ^ κ = 0) (h2 : b + 2 ^ κ ≤ e) (h3 : e < b + 2 ^ (κ + 1)) : lev b e = κ := by
  obtain ⟨s1, s2, s3⟩ := lev_spec b e h
  rcases Nat.lt_trichotomy (lev b e) κ with hl | hl | hl
  · have hd : 2 ^ (lev b e + 1) ∣ b := Nat.dvd_trans (Nat.pow_dvd_pow 2 hl) (Nat.dvd_of_mod_eq_zero h1)
    have := s3 (Nat.mod_eq_zero_of_dvd hd)
    have := Nat.pow_le_pow_right (n := 2) (by decide) (show lev b e + 1 ≤ κ from hl)
    omega
  · exact hl
  · have := Nat.pow_le_pow_right (n := 2) (by decide) (show κ + 1 ≤ lev b e from hl)
    omega
theorem fold_nodes (H : List Int → List Int → List Int) (E : List Int) (L : List (List Int)) (n : Nat) (hn : n ≤ L.length) : ∀ (d M B : Nat), n - B = d → B % 2 ^ M = 0 → n ≤ B + 2 ^ M → B < n → foldR H E ((Nds 0 B n).map (nodeH H E L)) = mth H E (seg L B n) := by
  intro d
  induction d using Nat.strongRecOn with
  | _ d ih =>
  intro M B hd hB hM hBn
  have hnode : ∀ κ, B % 2 ^ κ = 0 → lev B n = κ → Nds 0 B n = (κ, B / 2 ^ κ) :: Nds 0 (B + 2 ^ κ) n ∧ nodeH H E L (κ, B / 2 ^ κ) = mth H E (seg L B (B + 2 ^ κ)) := by
    intro κ h1 h2
    refine ⟨by have := Nds_step 0 B n hBn; rw [h2, Nat.zero_add] at this; exact this, ?_⟩
    have := Nat.div_add_mod B (2 ^ κ)
    rw [h1, Nat.add_zero] at this
    show mth H E (seg L (B / 2 ^ κ * 2 ^ κ) ((B / 2 ^ κ + 1) * 2 ^ κ)) = _
    rw [Nat.add_mul, Nat.one_mul, Nat.mul_comm (B / _), this]
  by_cases hfull : n = B + 2 ^ M
  · obtain ⟨e1, e2⟩ := hnode M hB (lev_is' hBn hB (by omega) (by have := Nat.two_pow_pos M; rw [Nat.pow_succ]; omega))
    rw [e1, Nds_empty (by omega), List.map_cons, List.map_nil, foldR, e2, hfull]
  · by_cases h1 : n - B = 1
    · have hB0 : B % 2 ^ 0 = 0 := by rw [Nat.pow_zero, Nat.mod_one]
      have hM1 : 0 < M := by
        rcases Nat.eq_zero_or_pos M with h | h
        · subst h; rw [Nat.pow_zero] at hfull; omega
        · exact h
      obtain ⟨e1, e2⟩ := hnode 0 hB0 (lev_is' hBn hB0 (by rw [Nat.pow_zero]; omega) (by rw [Nat.zero_add, Nat.pow_one]; omega))
      rw [e1, Nds_empty (by rw [Nat.pow_zero]; omega), List.map_cons, List.map_nil, foldR, e2, Nat.pow_zero, show B + 1 = n by omega]
    · have h2 : 2 ≤ n - B := by omega
      obtain ⟨κ, hκ⟩ : ∃ κ, psplit (n - B) = 2 ^ κ := ⟨_, rfl⟩
      have hp := Nat.two_pow_pos κ
      have hlt := psplit_lt h2
      have hle := le_psplit h2
      rw [hκ] at hlt hle
      have hpow : 2 ^ (κ + 1) = 2 * 2 ^ κ := by rw [Nat.pow_succ]; omega
      have hκM : κ < M := by
        apply Nat.lt_of_not_le
        intro h
        have := Nat.pow_le_pow_right (n := 2) (by decide) h
        omega
      have hd1 : 2 ^ (κ + 1) ∣ B := Nat.dvd_trans (Nat.pow_dvd_pow 2 hκM) (Nat.dvd_of_mod_eq_zero hB)
      have hd0 : 2 ^ κ ∣ B := Nat.dvd_trans (Nat.pow_dvd_pow 2 (by omega)) hd1
      by_cases hperf : n = B + 2 ^ (κ + 1)
      · obtain ⟨e1, e2⟩ := hnode (κ + 1) (Nat.mod_eq_zero_of_dvd hd1) (lev_is' hBn (Nat.mod_eq_zero_of_dvd hd1) (by omega) (by rw [Nat.pow_succ 2 (κ + 1)]; omega))
        rw [e1, Nds_empty (by omega), List.map_cons, List.map_nil, foldR, e2, ← hperf]
      · obtain ⟨e1, e2⟩ := hnode κ (Nat.mod_eq_zero_of_dvd hd0) (lev_is' hBn (Nat.mod_eq_zero_of_dvd hd0) (by omega) (by omega))
        have i1 := ih (n - (B + 2 ^ κ)) (by omega) κ (B + 2 ^ κ) rfl (by rw [Nat.add_mod_right]; exact Nat.mod_eq_zero_of_dvd hd0) (by omega) (by omega)
        rw [e1, List.map_cons, foldR_step (by
          intro h
          have h3 := congrArg List.length h
          rw [List.length_map] at h3
          have := Nds_nonempty (l := 0) (b := B + 2 ^ κ) (e := n) (by omega)
          rw [h3] at this
          exact absurd this (Nat.lt_irrefl 0)), i1, e2, mth_seg H E hn h2, hκ]
end Go.Proofs.YtielnphmcaecdaaDoor.Mth
namespace Go.Proofs.YtielnphmcaecdaaDoor.PAll
open Go.RowKit Go.Proofs.YtielnphmcaecdaaDoor.Num Go.Proofs.YtielnphmcaecdaaDoor.Mth Go.Proofs.YtielnphmcaecdaaDoorW.PrintWords Go.Proofs.YtielnphmcaecdaaDoorW.PrintLast
theorem ndiv (n m : Nat) : (n : Int) / (m : Int) = ((n / m : Nat) : Int) := (Int.natCast_ediv n m).symm
theorem and_le2 (a b : Nat) : a &&& b ≤ b := Nat.and_le_right
theorem msk55 : msk 85 8 = 6148914691236517205 := rfl
theorem msk33 : msk 51 8 = 3689348814741910323 := rfl
theorem msk0f : msk 15 8 = 1085102592571150095 := rfl
theorem st1_le (x : Nat) : st1 8 x ≤ 12297829382473034410 := by
  have h1 := and_le2 (x / 2) (msk 85 8); have h2 := and_le2 x (msk 85 8)
  rw [msk55] at h1 h2
  unfold st1; rw [msk55]; omega
theorem st2_le (x : Nat) : st2 8 x ≤ 7378697629483820646 := by
  have h1 := and_le2 (x / 4) (msk 51 8); have h2 := and_le2 x (msk 51 8)
  rw [msk33] at h1 h2
  unfold st2; rw [msk33]; omega
theorem bits_OnesCount64.eq (x : Nat) (hx : x < 18446744073709551616) : bits_OnesCount64.f (x : Int) = some ((ones x : Nat) : Int) := by
  have h1 := st1_le x
  have h2 := st2_le (st1 8 x)
  have hs := swar x hx
  dsimp only at hs
  have h3 : st3 8 (st2 8 (st1 8 x)) = cnt 8 x := st3_all 8 x
  have d2 : (x : Int) / 2 = ((x / 2 : Nat) : Int) := ndiv x 2
  have a1 : Go.bits .and .u64 ((x / 2 : Nat) : Int) 6148914691236517205 = ((x / 2 &&& 6148914691236517205 : Nat) : Int) := and64 (x / 2) 6148914691236517205 (by omega) (by omega)
  have a2 : Go.bits .and .u64 (x : Int) 6148914691236517205 = ((x &&& 6148914691236517205 : Nat) : Int) := and64 x 6148914691236517205 (by omega) (by omega)
  have e1 : IntKind.u64.wrap (Go.bits .and .u64 ((x : Int) / 2) 6148914691236517205 + Go.bits .and .u64 (x : Int) 6148914691236517205) = ((st1 8 x : Nat) : Int) := by
    rw [d2, a1, a2, ← Int.natCast_add, ← msk55]
    exact u64in (n := st1 8 x) (by omega)
  generalize st1 8 x = y at *
  have d3 : (y : Int) / 4 = ((y / 4 : Nat) : Int) := ndiv y 4
  have b1 : Go.bits .and .u64 ((y / 4 : Nat) : Int) 3689348814741910323 = ((y / 4 &&& 3689348814741910323 : Nat) : Int) := and64 (y / 4) 3689348814741910323 (by omega) (by omega)
  have b2 : Go.bits .and .u64 (y : Int) 3689348814741910323 = ((y &&& 3689348814741910323 : Nat) : Int) := and64 y 3689348814741910323 (by omega) (by omega)
  have e2 : IntKind.u64.wrap (Go.bits .and .u64 ((y : Int) / 4) 3689348814741910323 + Go.bits .and .u64 (y : Int) 3689348814741910323) = ((st2 8 y : Nat) : Int) := by
    rw [d3, b1, b2, ← Int.natCast_add, ← msk33]
    exact u64in (n := st2 8 y) (by omega)
  generalize st2 8 y = z at *
  have d4 : (z : Int) / 16 = ((z / 16 : Nat) : Int) := ndiv z 16
  have c0 : IntKind.u64.wrap ((z : Int) / 16 + (z : Int)) = ((z / 16 + z : Nat) : Int) := by
    rw [d4, ← Int.natCast_add]
    exact u64in (by omega)
  have e3 : Go.bits .and .u64 (IntKind.u64.wrap ((z : Int) / 16 + (z : Int))) 1085102592571150095 = ((cnt 8 x : Nat) : Int) := by
    rw [c0, ← h3, st3, msk0f]
    exact and64 (z / 16 + z) 1085102592571150095 (by omega) (by omega)
  generalize cnt 8 x = c at *
  have d5 : (c : Int) / 256 = ((c / 256 : Nat) : Int) := ndiv c 256
  have e4 : IntKind.u64.wrap ((c : Int) + (c : Int) / 256) = ((c + c / 256 : Nat) : Int) := by
    rw [d5, ← Int.natCast_add]
    exact u64in (by omega)
  have hp := hs.2.1
  generalize c + c / 256 = p at *
  have d6 : (p : Int) / 65536 = ((p / 65536 : Nat) : Int) := ndiv p 65536
  have e5 : IntKind.u64.wrap ((p : Int) + (p : Int) / 65536) = ((p + p / 65536 : Nat) : Int) := by
    rw [d6, ← Int.natCast_add]
    exact u64in (by omega)
  generalize p + p / 65536 = q at *
  have d7 : (q : Int) / 4294967296 = ((q / 4294967296 : Nat) : Int) := ndiv q 4294967296
  have e6 : IntKind.u64.wrap ((q : Int) + (q : Int) / 4294967296) = ((q + q / 4294967296 : Nat) : Int) := by
    rw [d7, ← Int.natCast_add]
    exact u64in (by omega)
  generalize q + q / 4294967296 = r at *
  have hr : Go.bits .and .i64 (wrap64 (r : Int)) 127 = ((ones x : Nat) : Int) := by
    rw [i64_and127, w64 hs.2.1, ← hs.1]
    rfl
  unfold bits_OnesCount64.f
  rw [e1, e2, e3, e4, e5, e6, hr]
def lenTab : ByteArray := (⟨#[0, 1, 2, 2, 3, 3, 3, 3, 4, 4, 4, 4, 4, 4, 4, 4, 5, 5, 5, 5, 5, 5, 5, 5, 5, 5, 5, 5, 5, 5, 5, 5, 6, 6, 6, 6, 6, 6, 6, 6, 6, 6, 6, 6, 6, 6, 6, 6, 6, 6, 6, 6, 6, 6, 6, 6, 6, 6, 6, 6, 6, 6, 6, 6, 7, 7, 7, 7, 7, 7, 7, 7, 7, 7, 7, 7, 7, 7, 7, 7, 7, 7, 7, 7, 7, 7, 7, 7, 7, 7, 7, 7, 7, 7, 7, 7, 7, 7, 7, 7, 7, 7, 7, 7, 7, 7, 7, 7, 7, 7, 7, 7, 7, 7, 7, 7, 7, 7, 7, 7, 7, 7, 7, 7, 7, 7, 7, 7, 8, 8, 8, 8, 8, 8, 8, 8, 8, 8, 8, 8, 8, 8, 8, 8, 8, 8, 8, 8, 8, 8, 8, 8, 8, 8, 8, 8, 8, 8, 8, 8, 8, 8, 8, 8, 8, 8, 8, 8, 8, 8, 8, 8, 8, 8, 8, 8, 8, 8, 8, 8, 8, 8, 8, 8, 8, 8, 8, 8, 8, 8, 8, 8, 8, 8, 8, 8, 8, 8, 8, 8, 8, 8, 8, 8, 8, 8, 8, 8, 8, 8, 8, 8, 8, 8, 8, 8, 8, 8, 8, 8, 8, 8, 8, 8, 8, 8, 8, 8, 8, 8, 8, 8, 8, 8, 8, 8, 8, 8, 8, 8, 8, 8, 8, 8, 8, 8, 8, 8, 8, 8, 8, 8, 8, 8, 8, 8]⟩ : ByteArray)
def lenList : List Nat := [0, 1, 2, 2, 3, 3, 3, 3, 4, 4, 4, 4, 4, 4, 4, 4, 5, 5, 5, 5, 5, 5, 5, 5, 5, 5, 5, 5, 5, 5, 5, 5, 6, 6, 6, 6, 6, 6, 6, 6, 6, 6, 6, 6, 6, 6, 6, 6, 6, 6, 6, 6, 6, 6, 6, 6, 6, 6, 6, 6, 6, 6, 6, 6, 7, 7, 7, 7, 7, 7, 7, 7, 7, 7, 7, 7, 7, 7, 7, 7, 7, 7, 7, 7, 7, 7, 7, 7, 7, 7, 7, 7, 7, 7, 7, 7, 7, 7, 7, 7, 7, 7, 7, 7, 7, 7, 7, 7, 7, 7, 7, 7, 7, 7, 7, 7, 7, 7, 7, 7, 7, 7, 7, 7, 7, 7, 7, 7, 8, 8, 8, 8, 8, 8, 8, 8, 8, 8, 8, 8, 8, 8, 8, 8, 8, 8, 8, 8, 8, 8, 8, 8, 8, 8, 8, 8, 8, 8, 8, 8, 8, 8, 8, 8, 8, 8, 8, 8, 8, 8, 8, 8, 8, 8, 8, 8, 8, 8, 8, 8, 8, 8, 8, 8, 8, 8, 8, 8, 8, 8, 8, 8, 8, 8, 8, 8, 8, 8, 8, 8, 8, 8, 8, 8, 8, 8, 8, 8, 8, 8, 8, 8, 8, 8, 8, 8, 8, 8, 8, 8, 8, 8, 8, 8, 8, 8, 8, 8, 8, 8, 8, 8, 8, 8, 8, 8, 8, 8, 8, 8, 8, 8, 8, 8, 8, 8, 8, 8, 8, 8, 8, 8, 8, 8, 8, 8]
theorem lenList_all : lenList = (List.range 256).map blen := by decide +kernel
theorem lenTab_same : lenTab.data.toList.map UInt8.toNat = lenList := by kernel_rfl
theorem lenTab_all : lenTab.data.toList.map UInt8.toNat = (List.range 256).map blen := lenTab_same.trans lenList_all
theorem lenTab_list (i : Nat) (h : i < 256) : (lenTab.data.toList.getD i 0).toNat = blen i := by
  have h1 : (lenTab.data.toList.map UInt8.toNat)[i]? = ((List.range 256).map blen)[i]? := by rw [lenTab_all]
  rw [List.getElem?_map, List.getElem?_map, List.getElem?_range h] at h1
  rw [List.getD_eq_getElem?_getD]
  cases h2 : lenTab.data.toList[i]? with
  | none => rw [h2] at h1; simp at h1
  | some b => rw [h2] at h1; simpa using h1
theorem lenTab_size : lenTab.size = 256 := by kernel_rfl
theorem bt_list (s : ByteArray) (i : Nat) (h : i < s.size) : bt s (i : Int) = ((s.data.toList.getD i 0).toNat : Int) := by
  have h' : i < s.data.size := h
  unfold bt
  rw [dif_pos (by simpa using h)]
  simp only [Int.toNat_natCast]
  rw [List.getD_eq_getElem?_getD, Array.getElem?_toList, Array.getElem?_eq_getElem h']
  rfl
theorem lenTab_at (i : Nat) (h : i < 256) : bt lenTab (i : Int) = ((blen i : Nat) : Int) := by
  rw [bt_list _ _ (by rw [lenTab_size]; exact h), lenTab_list i h]
theorem blen_shift (x s : Nat) (h : 2 ^ s ≤ x) : blen x = blen (x / 2 ^ s) + s := by
  induction s generalizing x with
  | zero => simp
  | succ s ih =>
    have hp := Nat.two_pow_pos s
    rw [Nat.pow_succ] at h
    rw [blen_pos (by omega), ih (x / 2) (by omega), Nat.div_div_eq_div_mul, Nat.pow_succ, Nat.mul_comm 2]; omega
theorem w64_add (a b : Nat) (h : a + b < 9223372036854775808) : wrap64 ((a : Int) + (b : Int)) = ((a + b : Nat) : Int) := by
  rw [← Int.natCast_add]; exact w64 h
theorem byte_in (y : Nat) (h : y < 256) : (y : Int) % 256 = (y : Int) := by omega
theorem blen_byte {y : Nat} (h : y < 256) : blen y ≤ 8 := blen_le.2 h
theorem len_end (b s : Nat) (hb : b ≤ 8) (hs : s ≤ 256) : wrap64 ((s : Int) + wrap64 (b : Int)) = ((b + s : Nat) : Int) := by
  rw [w64 (n := b) (by omega), w64_add s b (by omega), Nat.add_comm]
theorem shift_end (s d : Nat) (hs : s ≤ 256) (hd : d ≤ 256) : wrap64 ((s : Int) + (d : Int)) = ((s + d : Nat) : Int) := w64_add s d (by omega)
theorem bits_Len64.low (k : Nat) (x s : Nat) (hx : x < 4294967296) (hs : s ≤ 64) : bits_Len64.j0 (k + 1) (x : Int) (s : Int) = some ((blen x + s : Nat) : Int) := by
  show (if (x : Int) ≥ 65536 then (if ((x : Int) / 65536) ≥ 256 then (if 0 ≤ ((((x : Int) / 65536) / 256) % 256) then (if ((((x : Int) / 65536) / 256) % 256) < 256 then (some (wrap64 ((wrap64 ((wrap64 ((s : Int) + 16)) + 8)) + (wrap64 (bt lenTab ((((x : Int) / 65536) / 256) % 256)))))) else (none)) else (none)) else (if 0 ≤ (((x : Int) / 65536) % 256) then (if (((x : Int) / 65536) % 256) < 256 then (some (wrap64 ((wrap64 ((s : Int) + 16)) + (wrap64 (bt lenTab (((x : Int) / 65536) % 256)))))) else (none)) else (none))) else (if (x : Int) ≥ 256 then (if 0 ≤ (((x : Int) / 256) % 256) then (if (((x : Int) / 256) % 256) < 256 then (some (wrap64 ((wrap64 ((s : Int) + 8)) + (wrap64 (bt lenTab (((x : Int) / 256) % 256)))))) else (none)) else (none)) else (if 0 ≤ (((x : Int)) % 256) then (if (((x : Int)) % 256) < 256 then (some (wrap64 ((s : Int) + (wrap64 (bt lenTab (((x : Int)) % 256)))))) else (none)) else (none)))) = _
  have d1 : (x : Int) / 65536 = ((x / 65536 : Nat) : Int) := ndiv x 65536
  have d2 : (x : Int) / 256 = ((x / 256 : Nat) : Int) := ndiv x 256
  have d3 : ((x / 65536 : Nat) : Int) / 256 = ((x / 65536 / 256 : Nat) : Int) := ndiv (x / 65536) 256
  have s16 : wrap64 ((s : Int) + 16) = ((s + 16 : Nat) : Int) := shift_end s 16 (by omega) (by omega)
  have s8 : wrap64 ((s : Int) + 8) = ((s + 8 : Nat) : Int) := shift_end s 8 (by omega) (by omega)
  have s24 : wrap64 (((s + 16 : Nat) : Int) + 8) = ((s + 16 + 8 : Nat) : Int) := shift_end (s + 16) 8 (by omega) (by omega)
  rw [d1, d2, d3, s16, s8, s24]
  by_cases h1 : 65536 ≤ x
  · rw [if_pos (by omega)]
    by_cases h2 : 256 ≤ x / 65536
    · have h3 : x / 65536 / 256 < 256 := by omega
      have e := blen_shift x 24 (by omega)
      rw [show x / 2 ^ 24 = x / 65536 / 256 by omega] at e
      rw [if_pos (by omega), byte_in _ h3, lenTab_at _ h3, if_pos (by omega), if_pos (by omega), len_end _ _ (blen_byte h3) (by omega), e]
      congr 2; omega
    · have h3 : x / 65536 < 256 := by omega
      have e := blen_shift x 16 (by omega)
      rw [show x / 2 ^ 16 = x / 65536 by omega] at e
      rw [if_neg (by omega), byte_in _ h3, lenTab_at _ h3, if_pos (by omega), if_pos (by omega), len_end _ _ (blen_byte h3) (by omega), e]
      congr 2; omega
  · rw [if_neg (by omega)]
    by_cases h2 : 256 ≤ x
    · have h3 : x / 256 < 256 := by omega
      have e := blen_shift x 8 (by omega)
      rw [show x / 2 ^ 8 = x / 256 by omega] at e
      rw [if_pos (by omega), byte_in _ h3, lenTab_at _ h3, if_pos (by omega), if_pos (by omega), len_end _ _ (blen_byte h3) (by omega), e]
      congr 2; omega
    · have h3 : x < 256 := by omega
      rw [if_neg (by omega), byte_in _ h3, lenTab_at _ h3, if_pos (by omega), if_pos (by omega), len_end _ _ (blen_byte h3) (by omega)]
theorem bits_Len64.eq (k : Nat) (x : Nat) (hx : x < 18446744073709551616) : bits_Len64.f (k + 1) (x : Int) = some ((blen x : Nat) : Int) := by
  unfold bits_Len64.f
  have d1 : (x : Int) / 4294967296 = ((x / 4294967296 : Nat) : Int) := ndiv x 4294967296
  by_cases h : 4294967296 ≤ x
  · rw [if_pos (by omega), d1]
    have e := blen_shift x 32 (by omega)
    rw [show x / 2 ^ 32 = x / 4294967296 by omega] at e
    rw [e]
    exact bits_Len64.low k (x / 4294967296) 32 (by omega) (by omega)
  · rw [if_neg (by omega)]
    exact bits_Len64.low k x 0 (by omega) (by omega)
end Go.Proofs.YtielnphmcaecdaaDoor.PAll
namespace Go.Proofs.YtielnphmcaecdaaDoor.Mth
theorem fork_is {i n m : Nat} (h1 : i / 2 ^ (m + 1) = n / 2 ^ (m + 1)) (h2 : i / 2 ^ m ≠ n / 2 ^ m) : fork i n = m + 1 := by
  have a := fork_le.2 h1
  have b : ¬ fork i n ≤ m := fun h => h2 (fork_le.1 h)
  omega
end Go.Proofs.YtielnphmcaecdaaDoor.Mth
namespace Go.Proofs.YtielnphmcaecdaaDoor.Mth
open Go.Proofs.YtielnphmcaecdaaDoor.PAll
set_option linter.unusedVariables false
theorem Nds_snoc (l e : Nat) : Nds l 0 e = Nds (l + 1) 0 (e / 2) ++ (if e % 2 = 1 then [(l, e - 1)] else []) := by
  rcases Nat.eq_zero_or_pos e with h | h
  · subst h; rw [Nds_empty (Nat.le_refl _), Nds_empty (by omega)]; rfl
  · rw [Nds_some h, if_neg (show ¬ 0 % 2 = 1 by omega), List.nil_append]
def lowN (l x : Nat) : Nat → List (Nat × Nat)
  | 0 => []
  | t + 1 => (l + t, x / 2 ^ t - 1) :: lowN l x t
theorem lowN_len (l x : Nat) : ∀ t, (lowN l x t).length = t
  | 0 => rfl
  | t + 1 => by rw [lowN, List.length_cons, lowN_len l x t]
theorem Nds_low (l x : Nat) : ∀ t, (∀ j, j < t → x / 2 ^ j % 2 = 1) → Nds l 0 x = Nds (l + t) 0 (x / 2 ^ t) ++ lowN l x t
  | 0, _ => by rw [Nat.pow_zero, Nat.div_one, lowN, List.append_nil]; rfl
  | t + 1, h => by
    rw [Nds_low l x t (fun j hj => h j (by omega)), Nds_snoc (l + t), if_pos (h t (by omega)), lowN, Nat.pow_succ, ← Nat.div_div_eq_div_mul, List.append_assoc]; rfl
theorem tones_spec (E : Nat) : (∀ j, j < tones E → E / 2 ^ j % 2 = 1) ∧ E / 2 ^ tones E % 2 = 0 ∧ (E + 1) % 2 ^ tones E = 0 := by
  have h0 := fun j hj => tones_odd E j hj
  obtain ⟨h1, h2, h3⟩ := lev_spec (E + 1) (2 * (E + 1)) (by omega)
  have h1 : (E + 1) % 2 ^ tones E = 0 := h1
  refine ⟨h0, ?_, h1⟩
  rcases Nat.mod_two_eq_zero_or_one (E / 2 ^ tones E) with h | h
  · exact h
  · exfalso
    have hc := carry (n := E) (ℓ := tones E) h0
    have hd := Nat.div_add_mod (E + 1) (2 ^ tones E)
    rw [h1, hc, Nat.add_zero] at hd
    obtain ⟨q, hq⟩ : ∃ q, E / 2 ^ tones E + 1 = 2 * q := ⟨(E / 2 ^ tones E + 1) / 2, by omega⟩
    rw [hq] at hd
    have e2 : E + 1 = 2 ^ (tones E + 1) * q := by rw [Nat.pow_succ, Nat.mul_assoc]; exact hd.symm
    have h5 : (E + 1) % 2 ^ (tones E + 1) = 0 := by
      have := Nat.mul_mod_right (2 ^ (tones E + 1)) q
      rw [← e2] at this; exact this
    have h6 : 2 * (E + 1) < E + 1 + 2 ^ (tones E + 1) := h3 h5
    have hq0 : 0 < q := by
      rcases Nat.eq_zero_or_pos q with h | h
      · rw [h, Nat.mul_zero] at e2; omega
      · exact h
    have : 2 ^ (tones E + 1) ≤ 2 ^ (tones E + 1) * q := Nat.le_mul_of_pos_right _ hq0
    omega
theorem Nds_up (l x : Nat) : ∀ t, t ≤ tones x → Nds l 0 (x + 1) = Nds (l + t) 0 ((x + 1) / 2 ^ t)
  | 0, _ => by rw [Nat.pow_zero, Nat.div_one]; rfl
  | t + 1, h => by
    have h0 := (tones_spec x).1
    rw [Nds_up l x t (by omega), Nds_snoc (l + t), carry (n := x) (ℓ := t) (fun j hj => h0 j (by omega)), if_neg (by have := h0 t (by omega); omega), List.append_nil, carry (n := x) (ℓ := t + 1) (fun j hj => h0 j (by omega)), Nat.pow_succ, ← Nat.div_div_eq_div_mul]
    have := h0 t (by omega)
    rw [show (x / 2 ^ t + 1) / 2 = x / 2 ^ t / 2 + 1 by omega]; rfl
theorem Nds_more (x : Nat) : tones x ≤ (Nds 0 0 x).length ∧ Nds 0 0 (x + 1) = (Nds 0 0 x).take ((Nds 0 0 x).length - tones x) ++ [(tones x, x / 2 ^ tones x)] := by
  obtain ⟨h0, h1, _⟩ := tones_spec x
  have e1 := Nds_low 0 x (tones x) h0
  have e2 := Nds_up 0 x (tones x) (Nat.le_refl _)
  have hl : (Nds 0 0 x).length = (Nds (0 + tones x) 0 (x / 2 ^ tones x)).length + tones x := by
    conv => lhs; rw [e1]
    rw [List.length_append, lowN_len]
  refine ⟨by omega, ?_⟩
  have e3 : (Nds 0 0 x).take ((Nds 0 0 x).length - tones x) = Nds (0 + tones x) 0 (x / 2 ^ tones x) := by
    rw [hl, Nat.add_sub_cancel]
    conv => lhs; rw [e1]
    rw [List.take_left]
  rw [e2, e3, carry (n := x) (ℓ := tones x) h0, Nds_snoc (0 + tones x), if_pos (by omega), Nds_snoc (0 + tones x) (x / 2 ^ tones x), if_neg (by omega), List.append_nil, show (x / 2 ^ tones x + 1) / 2 = x / 2 ^ tones x / 2 by omega, Nat.add_sub_cancel, Nat.zero_add]
theorem Nds_at (x t : Nat) (h : t < tones x) : (Nds 0 0 x)[(Nds 0 0 x).length - 1 - t]? = some (t, x / 2 ^ t - 1) := by
  obtain ⟨h0, _, _⟩ := tones_spec x
  have e1 := Nds_low 0 x (t + 1) (fun j hj => h0 j (by omega))
  have hl : (Nds 0 0 x).length = (Nds (0 + (t + 1)) 0 (x / 2 ^ (t + 1))).length + (t + 1) := by
    conv => lhs; rw [e1]
    rw [List.length_append, lowN_len]
  rw [hl, show (Nds (0 + (t + 1)) 0 (x / 2 ^ (t + 1))).length + (t + 1) - 1 - t = (Nds (0 + (t + 1)) 0 (x / 2 ^ (t + 1))).length by omega, e1, List.getElem?_append_right (Nat.le_refl _), Nat.sub_self, lowN, Nat.zero_add]; rfl
theorem Nds_last (z M : Nat) (hM : M % 2 = 1) : Nds 0 0 (M * 2 ^ z) = Nds 0 0 ((M - 1) * 2 ^ z) ++ [(z, M - 1)] := by
  have a := Nds_shift z 0 M
  have b := Nds_shift z 0 (M - 1)
  rw [Nat.zero_mul] at a b
  rw [a, b, Nds_snoc z M, if_pos hM, Nds_snoc z (M - 1), if_neg (by omega), List.append_nil, show (M - 1) / 2 = M / 2 by omega]
theorem and_pred (M : Nat) (hM : M % 2 = 1) : ∀ z, (2 ^ z * M) &&& (2 ^ z * M - 1) = 2 ^ z * (M - 1)
  | 0 => by
    rw [Nat.pow_zero, Nat.one_mul, Nat.one_mul]
    have h1 : (M &&& (M - 1)) / 2 = (M - 1) / 2 := by
      rw [Nat.and_div_two, show M / 2 = (M - 1) / 2 by omega, Nat.and_self]
    have h2 : (M &&& (M - 1)) % 2 = 0 := by
      have h := Nat.and_mod_two_pow (a := M) (b := M - 1) (n := 1)
      rw [Nat.pow_one, show (M - 1) % 2 = 0 by omega, Nat.and_zero] at h
      exact h
    omega
  | z + 1 => by
    have ih := and_pred M hM z
    have hp := Nat.two_pow_pos z
    have e : 2 ^ (z + 1) * M = 2 * (2 ^ z * M) := by rw [Nat.pow_succ]; ac_rfl
    have e' : 2 ^ (z + 1) * (M - 1) = 2 * (2 ^ z * (M - 1)) := by rw [Nat.pow_succ]; ac_rfl
    have hpos : 0 < 2 ^ z * M := Nat.mul_pos hp (by omega)
    rw [e, e']
    have h1 : (2 * (2 ^ z * M) &&& (2 * (2 ^ z * M) - 1)) / 2 = 2 ^ z * (M - 1) := by
      rw [Nat.and_div_two, show 2 * (2 ^ z * M) / 2 = 2 ^ z * M by omega, show (2 * (2 ^ z * M) - 1) / 2 = 2 ^ z * M - 1 by omega]
      exact ih
    have h2 : (2 * (2 ^ z * M) &&& (2 * (2 ^ z * M) - 1)) % 2 = 0 := by
      have h := Nat.and_mod_two_pow (a := 2 * (2 ^ z * M)) (b := 2 * (2 ^ z * M) - 1) (n := 1)
      rw [Nat.pow_one, show 2 * (2 ^ z * M) % 2 = 0 by omega, Nat.zero_and] at h
      exact h
    omega
theorem tzn_spec {x : Nat} (h : 0 < x) : x = 2 ^ tzn x * (x / 2 ^ tzn x) ∧ x / 2 ^ tzn x % 2 = 1 := by
  obtain ⟨h1, h2, h3⟩ := lev_spec x (2 * x) (by omega)
  have h1 : x % 2 ^ tzn x = 0 := h1
  have e : x = 2 ^ tzn x * (x / 2 ^ tzn x) := by
    have := Nat.div_add_mod x (2 ^ tzn x); omega
  refine ⟨e, ?_⟩
  rcases Nat.mod_two_eq_zero_or_one (x / 2 ^ tzn x) with h4 | h4
  · exfalso
    obtain ⟨q, hq⟩ : ∃ q, x / 2 ^ tzn x = 2 * q := ⟨x / 2 ^ tzn x / 2, by omega⟩
    rw [hq] at e
    have e2 : x = 2 ^ (tzn x + 1) * q := by
      rw [Nat.pow_succ, Nat.mul_assoc]; exact e
    have h5 : x % 2 ^ (tzn x + 1) = 0 := by
      have := Nat.mul_mod_right (2 ^ (tzn x + 1)) q
      rw [← e2] at this; exact this
    have h6 : 2 * x < x + 2 ^ (tzn x + 1) := h3 h5
    have hq0 : 0 < q := by
      rcases Nat.eq_zero_or_pos q with h | h
      · rw [h, Nat.mul_zero] at e2; omega
      · exact h
    have : 2 ^ (tzn x + 1) ≤ 2 ^ (tzn x + 1) * q := Nat.le_mul_of_pos_right _ hq0
    omega
  · exact h4
theorem odd_succ {M : Nat} (h : M % 2 = 1) : ∃ q, M = q + 1 ∧ (q + 1) % 2 = 1 := ⟨M - 1, by omega, by omega⟩
def zN (n : Nat) : Nat → Nat
  | 0 => n
  | i + 1 => zN n i - 2 ^ tzn (zN n i)
theorem zN_step {n i : Nat} (h : 0 < zN n i) : zN n (i + 1) = 2 ^ tzn (zN n i) * (zN n i / 2 ^ tzn (zN n i) - 1) ∧ Nds 0 0 (zN n i) = Nds 0 0 (zN n (i + 1)) ++ [(tzn (zN n i), zN n i / 2 ^ tzn (zN n i) - 1)] ∧ zN n (i + 1) + 2 ^ tzn (zN n i) = zN n i ∧ (zN n i &&& (zN n i - 1)) = zN n (i + 1) := by
  obtain ⟨e, ho⟩ := tzn_spec h
  obtain ⟨q, hq, hqo⟩ := odd_succ ho
  have e1 : zN n (i + 1) = 2 ^ tzn (zN n i) * q := by
    rw [zN]
    rw [hq, Nat.mul_add, Nat.mul_one] at e
    omega
  have e2 : zN n i = 2 ^ tzn (zN n i) * q + 2 ^ tzn (zN n i) := by rw [hq, Nat.mul_add, Nat.mul_one] at e; exact e
  refine ⟨by rw [hq, Nat.add_sub_cancel]; exact e1, ?_, by omega, ?_⟩
  · have h1 := Nds_last (tzn (zN n i)) (q + 1) hqo
    rw [Nat.add_sub_cancel, Nat.mul_comm q, ← e1, Nat.mul_comm (q + 1), Nat.mul_add, Nat.mul_one, ← e2] at h1
    rw [hq, Nat.add_sub_cancel]
    exact h1
  · have h1 := and_pred (q + 1) hqo (tzn (zN n i))
    rw [Nat.add_sub_cancel, ← e1, Nat.mul_add, Nat.mul_one, ← e2] at h1
    exact h1
theorem zN_pos {n i : Nat} (h : i < (Nds 0 0 n).length) : 0 < zN n i ∧ (Nds 0 0 (zN n i)).length + i = (Nds 0 0 n).length := by
  induction i with
  | zero =>
    refine ⟨?_, rfl⟩
    rcases Nat.eq_zero_or_pos n with h0 | h0
    · subst h0; rw [Nds_empty (Nat.le_refl _)] at h; exact absurd h (Nat.lt_irrefl 0)
    · exact h0
  | succ i ih =>
    obtain ⟨h1, h2⟩ := ih (by omega)
    have h3 := congrArg List.length (zN_step h1).2.1
    rw [List.length_append, List.length_singleton] at h3
    have h4 : (Nds 0 0 (zN n (i + 1))).length + (i + 1) = (Nds 0 0 n).length := by omega
    refine ⟨?_, h4⟩
    rcases Nat.eq_zero_or_pos (zN n (i + 1)) with h0 | h0
    · rw [h0, Nds_empty (Nat.le_refl _)] at h4; simp at h4; omega
    · exact h0
theorem tzn_up {n i : Nat} (h : 0 < zN n i) (h1 : 0 < zN n (i + 1)) : tzn (zN n i) + 1 ≤ tzn (zN n (i + 1)) := by
  obtain ⟨e, ho⟩ := tzn_spec h
  obtain ⟨e1, _, _, _⟩ := zN_step h
  obtain ⟨f, fo⟩ := tzn_spec h1
  apply Nat.le_of_not_lt
  intro hlt
  obtain ⟨T, hT⟩ : ∃ T, tzn (zN n (i + 1)) = T := ⟨_, rfl⟩
  obtain ⟨x, hx⟩ : ∃ x, zN n i / 2 ^ tzn (zN n i) = x := ⟨_, rfl⟩
  rw [hT] at hlt fo
  rw [hx] at ho e1
  obtain ⟨d, hd⟩ : ∃ d, tzn (zN n i) = T + d := ⟨tzn (zN n i) - T, by omega⟩
  obtain ⟨q, hq⟩ : ∃ q, x - 1 = 2 * q := ⟨(x - 1) / 2, by omega⟩
  rw [hq, hd, Nat.pow_add] at e1
  have hp := Nat.two_pow_pos T
  have e4 : 2 ^ T * 2 ^ d * (2 * q) = 2 ^ T * (2 * (2 ^ d * q)) := by ac_rfl
  rw [e1, e4, Nat.mul_div_cancel_left _ hp] at fo
  omega
theorem zN_near {n : Nat} : ∀ i, i < (Nds 0 0 n).length → n < zN n i + 2 ^ tzn (zN n i) ∧ zN n i ≤ n ∧ Nds 0 0 n = Nds 0 0 (zN n i) ++ Nds 0 (zN n i) n
  | 0, h => by
    have hp := Nat.two_pow_pos (tzn (zN n 0))
    refine ⟨by show n < n + _; omega, Nat.le_refl _, ?_⟩
    show _ = Nds 0 0 n ++ Nds 0 n n
    rw [Nds_empty (Nat.le_refl n), List.append_nil]
  | i + 1, h => by
    obtain ⟨h1, h2, h3⟩ := zN_near (n := n) i (by omega)
    have hp0 := (zN_pos (show i < (Nds 0 0 n).length by omega)).1
    have hp1 := (zN_pos h).1
    obtain ⟨s1, s2, s3, _⟩ := zN_step hp0
    have hu := tzn_up hp0 hp1
    have hpw := Nat.pow_le_pow_right (n := 2) (by decide) hu
    have hpp := Nat.two_pow_pos (tzn (zN n i))
    rw [Nat.pow_succ] at hpw
    refine ⟨by omega, by omega, ?_⟩
    have hz : zN n (i + 1) % 2 ^ tzn (zN n i) = 0 := by rw [s1, Nat.mul_mod_right]
    have hlev : lev (zN n (i + 1)) n = tzn (zN n i) := lev_is' (by omega) hz (by omega) (by rw [Nat.pow_succ]; omega)
    rw [Nds_step 0 (zN n (i + 1)) n (by omega), hlev, s3, Nat.zero_add, h3, s2, List.append_assoc]
    have hd : zN n (i + 1) / 2 ^ tzn (zN n i) = zN n i / 2 ^ tzn (zN n i) - 1 := by rw [s1, Nat.mul_div_cancel_left _ hpp]
    rw [hd]; rfl
end Go.Proofs.YtielnphmcaecdaaDoor.Mth
namespace Go.Proofs.YtielnphmcaecdaaDoor.PAll
open Go.RowKit Go.Proofs.YtielnphmcaecdaaDoorW.PrintWords Go.Proofs.YtielnphmcaecdaaDoorW.PrintLast Go.Proofs.YtielnphmcaecdaaDoorW.PrintMore
attribute [local go_sem] max2_int min2_int max_two min_two max_three min_three max_four min_four   -- for this text's walks alone
set_option linter.unusedVariables false
set_option linter.unusedSimpArgs false
def spec_pathIn.f : Nat → Int → Int → Int → Option ((List (S53)))
  | 0, _, _, _ => none
  | k + 1, a0, a1_0, a1_1 => if (IntKind.u64.wrap (a1_1 - a1_0)) = 1 then (some ([] : List (S53))) else ((spec_split.f k (IntKind.u64.wrap (a1_1 - a1_0))).bind fun t359 => (if a0 < (IntKind.u64.wrap (a1_0 + t359)) then ((spec_pathIn.f k a0 a1_0 (IntKind.u64.wrap (a1_0 + t359))).bind fun t360 => ((some (([(⟨IntKind.u64.wrap (a1_0 + t359), a1_1⟩ : S53)] : List (S53)) : List (S53))).bind fun y363 => (if t360.length + y363.length < 8796093022208 then (some (t360 ++ y363)) else (none)))) else ((spec_pathIn.f k a0 (IntKind.u64.wrap (a1_0 + t359)) a1_1).bind fun t369 => ((some (([(⟨a1_0, IntKind.u64.wrap (a1_0 + t359)⟩ : S53)] : List (S53)) : List (S53))).bind fun y372 => (if t369.length + y372.length < 8796093022208 then (some (t369 ++ y372)) else (none))))))
theorem spec_pathIn.mono_l : ∀ k, (∀ y0 y1 y2, LeO (spec_pathIn.f k y0 y1 y2) (spec_pathIn.f (k + 1) y0 y1 y2))
  | 0 => fun _ _ _ r h => by simp [spec_pathIn.f] at h
  | k + 1 => by
    have ih0 := spec_pathIn.mono_l k
    · intro y0 y1 y2
      unfold spec_pathIn.f
      repeat' first
      | (with_reducible exact ih0 _ _ _)
      | (with_reducible exact spec_split.mono _ _)
      | (with_reducible exact LeO.refl _)
      | (with_reducible exact LeO.none _)
      | (with_reducible refine LeO.ite ?_ ?_)
      | (with_reducible refine LeO.bind ?_ (fun _ => ?_))
      | exact ih0 _ _ _
      | exact spec_split.mono _ _
      | exact LeO.none _
      | refine LeO.ite ?_ ?_
      | refine LeO.bind ?_ (fun _ => ?_)
theorem spec_pathIn.mono : ∀ a0 a1 a2 k, LeO (spec_pathIn.f k a0 a1 a2) (spec_pathIn.f (k + 1) a0 a1 a2) := by
  intro a0 a1 a2 k
  have ih0 := spec_pathIn.mono_l k
  exact ih0 a0 a1 a2
def spec_PathParts.f (k : Nat) (a0 : Int) (a1 : Int) : Option ((List (S53))) := (spec_pathIn.f k a0 0 a1).bind fun t378 => (some t378)
theorem spec_PathParts.mono : ∀ a0 a1 k, LeO (spec_PathParts.f k a0 a1) (spec_PathParts.f (k + 1) a0 a1) := by
  intro a0 a1 k
  unfold spec_PathParts.f
  repeat' first
      | (with_reducible exact spec_pathIn.mono _ _ _ _)
      | (with_reducible exact LeO.refl _)
      | (with_reducible exact LeO.none _)
      | (with_reducible refine LeO.ite ?_ ?_)
      | (with_reducible refine LeO.bind ?_ (fun _ => ?_))
      | exact spec_pathIn.mono _ _ _ _
      | exact LeO.none _
      | refine LeO.ite ?_ ?_
      | refine LeO.bind ?_ (fun _ => ?_)
end Go.Proofs.YtielnphmcaecdaaDoor.PAll
namespace Go.Proofs.YtielnphmcaecdaaDoor.PAll
open Go.RowKit Go.Proofs.YtielnphmcaecdaaDoor.Num Go.Proofs.YtielnphmcaecdaaDoor.Mth Go.Proofs.YtielnphmcaecdaaDoorW.PrintWords Go.Proofs.YtielnphmcaecdaaDoorW.PrintLast
theorem split_loop (n : Nat) (hn : n < 18446744073709551616) (d : Nat) : ∀ (j k : Nat), 2 ^ j < n → blen (n - 1) = j + 1 + d → d < k → spec_split.l0 k (n : Int) ((2 ^ j : Nat) : Int) = some ((psplit n : Nat) : Int) := by
  induction d with
  | zero =>
    intro j k h1 h2 hk
    obtain ⟨k, rfl⟩ : ∃ m, k = m + 1 := ⟨k - 1, by omega⟩
    have h3 : n - 1 < 2 ^ (j + 1) := blen_le.1 (by omega)
    rw [Nat.pow_succ] at h3
    have e : psplit n = 2 ^ j := psplit_unique h1 (by omega)
    rw [spec_split.l0, u64sub (by omega) hn, if_neg (by omega), e]
  | succ d ih =>
    intro j k h1 h2 hk
    obtain ⟨k, rfl⟩ : ∃ m, k = m + 1 := ⟨k - 1, by omega⟩
    have h3 : ¬ n - 1 < 2 ^ (j + 1) := fun h => by have := blen_le.2 h; omega
    have h4 := Nat.pow_succ 2 j
    have e : IntKind.u64.wrap (((2 ^ j : Nat) : Int) * 2) = ((2 ^ (j + 1) : Nat) : Int) := by
      rw [h4]; exact u64mul (a := 2 ^ j) (b := 2) (by omega)
    rw [spec_split.l0, u64sub (by omega) hn, if_pos (by omega), e]
    exact ih (j + 1) k (by omega) (by omega) (by omega)
theorem spec_split.eq (n : Nat) (h2 : 2 ≤ n) (hn : n < 18446744073709551616) (k : Nat) (hk : 64 ≤ k) : spec_split.f k (n : Int) = some ((psplit n : Nat) : Int) := by
  have h1 := blen_pos (n := n - 1) (by omega)
  have h3 := blen_lt64 (n := n - 1) (by omega)
  exact split_loop n hn (blen (n - 1) - 1) 0 k (by simp; omega) (by omega) (by omega)
end Go.Proofs.YtielnphmcaecdaaDoor.PAll
namespace Go.Proofs.YtielnphmcaecdaaDoor.PAll
open Go.RowKit Go.Proofs.YtielnphmcaecdaaDoor.Num Go.Proofs.YtielnphmcaecdaaDoor.Mth Go.Proofs.YtielnphmcaecdaaDoorW.PrintWords Go.Proofs.YtielnphmcaecdaaDoorW.PrintLast
theorem tz_pow (l : Nat) (h : l < 64) : tzTab.getD (2 ^ l * 285870213051353865 % 18446744073709551616 / 288230376151711744) 0 = (l : Int) := by
  revert l; decide +kernel
theorem bits_TrailingZeros64.eq (l M : Nat) (hM : M % 2 = 1) (hx : 2 ^ l * M < 18446744073709551616) : bits_TrailingZeros64.f ((2 ^ l * M : Nat) : Int) = some ((l : Nat) : Int) := by
  have hp := Nat.two_pow_pos l
  have hl : l < 64 := by
    rcases Nat.lt_or_ge l 64 with h | h
    · exact h
    · have h1 : 2 ^ 64 ≤ 2 ^ l := Nat.pow_le_pow_right (by decide) h
      have h2 : 2 ^ l * 1 ≤ 2 ^ l * M := Nat.mul_le_mul_left _ (by omega)
      omega
  have hlt : 2 ^ l < 18446744073709551616 := pow_lt64 (by omega)
  have hpos : 0 < 2 ^ l * M := Nat.mul_pos hp (by omega)
  have h64 : (18446744073709551616 : Nat) = 2 ^ l * 2 ^ (64 - l) := by rw [← Nat.pow_add, show l + (64 - l) = 64 by omega]
  have hML : M < 2 ^ (64 - l) := by
    rw [h64] at hx
    exact Nat.lt_of_mul_lt_mul_left hx
  have hneg : IntKind.u64.wrap (-((2 ^ l * M : Nat) : Int)) = ((18446744073709551616 - 2 ^ l * M : Nat) : Int) := by rw [u64w]; omega
  have hand : (2 ^ l * M) &&& (18446744073709551616 - 2 ^ l * M) = 2 ^ l := by
    rw [h64, ← Nat.mul_sub, and_mul_pow, and_neg_odd _ _ hM hML, Nat.mul_one]
  have hi : tzIdx ((2 ^ l * M : Nat) : Int) = ((2 ^ l * 285870213051353865 % 18446744073709551616 / 288230376151711744 : Nat) : Int) := by
    unfold tzIdx
    rw [hneg, and64 _ _ hx (by omega), hand]
    have e1 : ((2 ^ l : Nat) : Int) * 285870213051353865 = ((2 ^ l * 285870213051353865 : Nat) : Int) := by rw [Int.natCast_mul]; rfl
    rw [e1, u64n]
    exact ndiv _ 288230376151711744
  unfold bits_TrailingZeros64.f
  rw [if_neg (by omega), hi, Int.toNat_natCast, tz_pow l hl]
def masks (b e : Nat) : Nat × Nat := if b = 0 then (0, e) else (negm (fork (b - 1) e - 1) b, e % 2 ^ (fork (b - 1) e - 1))
theorem fork_pos {x e : Nat} (h : x < e) : 0 < fork x e := by
  rcases Nat.eq_zero_or_pos (fork x e) with h1 | h1
  · have := fork_eq x e
    rw [h1] at this; simp at this; omega
  · exact h1
theorem fork_below {x e : Nat} (h : x < e) : x / 2 ^ (fork x e - 1) + 1 = e / 2 ^ (fork x e - 1) := by
  have h1 := fork_pos h
  have h2 : ¬ fork x e ≤ fork x e - 1 := by omega
  rw [fork_le] at h2
  have h3 := fork_eq x e
  rw [show fork x e = fork x e - 1 + 1 by omega, Nat.pow_succ, ← Nat.div_div_eq_div_mul, ← Nat.div_div_eq_div_mul] at h3
  have h4 := Nat.div_le_div_right (c := 2 ^ (fork x e - 1)) (Nat.le_of_lt h)
  omega
theorem compact_Decompose.eq (b e : Nat) (h : b ≤ e) (he : e < 18446744073709551616) (k : Nat) : compact_Decompose.f (k + 1) (b : Int) (e : Int) = some (((masks b e).1 : Int), ((masks b e).2 : Int)) := by
  unfold compact_Decompose.f masks
  by_cases h0 : b = 0
  · rw [if_pos (by omega), if_pos h0]; rfl
  · have hx : (b - 1) ^^^ e < 18446744073709551616 := Nat.xor_lt_two_pow (n := 64) (by omega) (by omega)
    have hf := blen_lt64 hx
    have hp := fork_pos (x := b - 1) (e := e) (by omega)
    have hbel := fork_below (x := b - 1) (e := e) (by omega)
    have e1 : IntKind.u64.wrap ((b : Int) - 1) = ((b - 1 : Nat) : Int) := u64sub (a := b) (b := 1) (by omega) (by omega)
    rw [if_neg (by omega), if_neg h0, e1, xor64 _ _ (by omega) he, bits_Len64.eq _ _ hx]
    clear e1
    rw [show blen ((b - 1) ^^^ e) = fork (b - 1) e from rfl] at hf ⊢
    rw [Option.bind_some]
    generalize hd : fork (b - 1) e = D at *
    obtain ⟨d, rfl⟩ : ∃ d, D = d + 1 := ⟨D - 1, by omega⟩
    rw [Nat.add_sub_cancel] at *
    have hd2 := pow_lt64 (k := d) (by omega)
    have hdp := Nat.two_pow_pos d
    have hmd : (b - 1) % 2 ^ d < 2 ^ d := Nat.mod_lt _ hdp
    have hme : e % 2 ^ d < 2 ^ d := Nat.mod_lt _ hdp
    have hmask : (18446744073709551615 ^^^ (b - 1)) &&& (2 ^ d - 1) = negm d b := by
      rw [Nat.and_two_pow_sub_one_eq_mod, Nat.xor_mod_two_pow]
      have h1 : 18446744073709551615 % 2 ^ d = 2 ^ d - 1 := by
        have : (18446744073709551615 : Nat) = 2 ^ 64 - 1 := rfl
        rw [this]
        have h2 : 2 ^ 64 = 2 ^ d * 2 ^ (64 - d) := by rw [← Nat.pow_add, show d + (64 - d) = 64 by omega]
        have h3 := Nat.two_pow_pos (64 - d)
        obtain ⟨c, hc⟩ : ∃ c, 2 ^ (64 - d) = c + 1 := ⟨2 ^ (64 - d) - 1, by omega⟩
        rw [h2, hc, Nat.mul_add, Nat.mul_one, Nat.add_sub_assoc (by omega), Nat.mul_add_mod, Nat.mod_eq_of_lt (by omega)]
      rw [h1]
      have h4 : (2 ^ d - 1) ^^^ ((b - 1) % 2 ^ d) = 2 ^ d - ((b - 1) % 2 ^ d + 1) := by
        apply Nat.eq_of_testBit_eq
        intro i
        rw [Nat.testBit_xor, Nat.testBit_two_pow_sub_one, Nat.testBit_two_pow_sub_succ hmd, Nat.testBit_mod_two_pow]
        by_cases h5 : i < d <;> simp [h5]
      rw [h4]
      unfold negm
      have h6 : b % 2 ^ d = ((b - 1) % 2 ^ d + 1) % 2 ^ d := by
        have := Nat.add_mod (b - 1) 1 (2 ^ d)
        rw [show b - 1 + 1 = b by omega] at this
        rw [this, Nat.add_mod ((b - 1) % 2 ^ d) 1, Nat.mod_mod]
      rw [h6]
      by_cases h7 : (b - 1) % 2 ^ d + 1 = 2 ^ d
      · rw [h7, Nat.mod_self, Nat.sub_self, Nat.sub_zero, Nat.mod_self]
      · clear h6 h4 hbel
        generalize (b - 1) % 2 ^ d = r at *
        rw [Nat.mod_eq_of_lt (show r + 1 < 2 ^ d by omega), Nat.mod_eq_of_lt (show 2 ^ d - (r + 1) < 2 ^ d by omega)]
    have w1 : wrap64 (((d + 1 : Nat) : Int) - 1) = (d : Int) := by
      rw [show ((d + 1 : Nat) : Int) - 1 = (d : Int) by omega]; exact w64 (by omega)
    have w3 : IntKind.u64.wrap (((2 ^ d : Nat) : Int) - 1) = ((2 ^ d - 1 : Nat) : Int) := u64sub (a := 2 ^ d) (b := 1) hdp hd2
    have w4 : Go.bits .xor .u64 18446744073709551615 ((b - 1 : Nat) : Int) = ((18446744073709551615 ^^^ (b - 1) : Nat) : Int) := xor64 18446744073709551615 (b - 1) (by decide) (by omega)
    have hb1 : 18446744073709551615 ^^^ (b - 1) < 18446744073709551616 := Nat.xor_lt_two_pow (n := 64) (by decide) (by omega)
    have hm1 : 2 ^ d - 1 < 18446744073709551616 := by omega
    have hdd : d < 18446744073709551616 := by omega
    have hs := shl_one (k := d) (by omega)
    rw [w1, u64in hdd, if_pos (Int.natCast_nonneg d), hs, w3, w4, and64 _ _ hb1 hm1, and64 _ _ he hm1, hmask, Nat.and_two_pow_sub_one_eq_mod]
end Go.Proofs.YtielnphmcaecdaaDoor.PAll
namespace Go.Proofs.YtielnphmcaecdaaDoor.PAll
open Go.RowKit Go.Proofs.YtielnphmcaecdaaDoor.Num Go.Proofs.YtielnphmcaecdaaDoor.Mth Go.Proofs.YtielnphmcaecdaaDoorW.PrintWords Go.Proofs.YtielnphmcaecdaaDoorW.PrintLast
theorem Nds_masks (b e : Nat) (h : b ≤ e) (h0 : 0 < b) : Nds 0 b e = Lft 0 (fork (b - 1) e - 1) b ++ RgtT (fork (b - 1) e - 1) e := by
  rw [Nds_parts (fork (b - 1) e - 1) 0 b e h0 (fork_below (by omega)), Rgt_eq]
theorem fork_64 {i n : Nat} (hi : i < 18446744073709551616) (hn : n < 18446744073709551616) : fork i n ≤ 64 := blen_lt64 (Nat.xor_lt_two_pow (n := 64) hi hn)
theorem compact_RangeSize.eq (b e : Nat) (h : b ≤ e) (he : e < 18446744073709551616) (k : Nat) : compact_RangeSize.f (k + 1) (b : Int) (e : Int) = some (((Nds 0 b e).length : Nat) : Int) := by
  unfold compact_RangeSize.f
  rw [compact_Decompose.eq b e h he, Option.bind_some]
  rcases Nat.eq_zero_or_pos b with h0 | h0
  · subst h0
    have h1 : (Nds 0 0 e).length = ones e := by rw [Nds_zero 64 0 e he, Rgt_eq, ones_RgtT, Nat.mod_eq_of_lt he]
    have h2 := ones_le e 64 he
    have e0 : bits_OnesCount64.f 0 = some 0 := by
      have := bits_OnesCount64.eq 0 (by decide)
      rw [ones_zero] at this; exact this
    rw [show masks 0 e = (0, e) from rfl, h1]
    show (bits_OnesCount64.f 0).bind _ = _
    rw [e0, Option.bind_some, bits_OnesCount64.eq e he, Option.bind_some, Int.zero_add, w64 (by omega)]
  · have hm : masks b e = (negm (fork (b - 1) e - 1) b, e % 2 ^ (fork (b - 1) e - 1)) := by unfold masks; rw [if_neg (by omega)]
    have hf := fork_64 (i := b - 1) (n := e) (by omega) he
    rw [hm, Nds_masks b e h h0, List.length_append, ones_Lft, ones_RgtT]
    generalize hd : fork (b - 1) e - 1 = d at *
    have hd63 : d ≤ 63 := by omega
    have h1 := pow_lt64 hd63
    have h2 : negm d b < 2 ^ d := Nat.mod_lt _ (Nat.two_pow_pos d)
    have h3 : e % 2 ^ d < 2 ^ d := Nat.mod_lt _ (Nat.two_pow_pos d)
    have h4 := ones_le _ _ h2
    have h5 := ones_le _ _ h3
    rw [bits_OnesCount64.eq _ (Nat.lt_trans h2 h1), Option.bind_some, bits_OnesCount64.eq _ (Nat.lt_trans h3 h1), Option.bind_some, w64_add _ _ (by omega)]
end Go.Proofs.YtielnphmcaecdaaDoor.PAll
namespace Go.Proofs.YtielnphmcaecdaaDoor.PAll
open Go.RowKit Go.Proofs.YtielnphmcaecdaaDoor.Mth Go.Proofs.YtielnphmcaecdaaDoorW.PrintWords Go.Proofs.YtielnphmcaecdaaDoorW.PrintLast Go.Proofs.YtielnphmcaecdaaDoorW.PrintMore
set_option linter.unusedVariables false
theorem Frm.row {base g : Nat} {w w' : World} {tb : Nat} {v : Value} {ss : List SH} (h : Frm base g w w') (hR : Rw w tb v ss) (hb : w.heap.size ≤ base) (hg : v.ownBlock ≠ some g) : Rw w' tb v ss :=
  Kd.R_mono (Kd.R_step (Kd.R_tight rfl hR) (fun k hk hlt => h.block k (by omega) (fun e => hg (by rw [← hk, e])))) (fun _ _ => trivial)
def node_ (F : List Int → List Int → Option (List Int)) (L : List (List Int)) : Nat → Nat → Option (List Int)
  | 0, j => L[j]?
  | i + 1, j => (node_ F L i (2 * j)).bind fun x => (node_ F L i (2 * j + 1)).bind fun y => F x y
def allN (F : List Int → List Int → Option (List Int)) (L : List (List Int)) (n : Nat) : Bool := (List.range 64).all fun i => (List.range (n / 2 ^ i)).all fun j => (node_ F L i j).isSome
def nodeV (F : List Int → List Int → Option (List Int)) (L : List (List Int)) (i j : Nat) : List Int := (node_ F L i j).getD []
def idsIn (n : Nat) (ids : List S99) : Bool := ids.all fun id => decide (0 ≤ id.f0) && (decide (0 ≤ id.f1) && decide ((id.f1.toNat + 1) * 2 ^ id.f0.toNat ≤ n))
def impl_TreeRoot.f (k : Nat) (a0 a1 a2 a3 a4 a5 : Int) (l : List (List Int)) (size : Int) : Option (List Int × Bool) :=
  if IntKind.u64.wrap (l.length : Int) < size then some ([], false) else
  if l.length < 1099511627776 then (impl_texts.f k l).bind fun x =>
    if x.length < 1099511627776 ∧ allN (impl_toy_HashChildren.f k a0 a1 a2 a3 a4 a5) x x.length = true then
      (if size = 0 then (impl_toy_EmptyRoot.f k a0 a1 a2 a3 a4 a5).bind fun r => some (r, true)
       else (compact_RangeNodes.f k 0 size []).bind fun ids => if ids.length ≤ 100000 ∧ idsIn x.length ids = true then (foldR_ (impl_toy_HashChildren.f k a0 a1 a2 a3 a4 a5) (ids.map fun id => nodeV (impl_toy_HashChildren.f k a0 a1 a2 a3 a4 a5) x id.f0.toNat id.f1.toNat)).bind fun r => some (r, true) else none)
    else none
  else none
theorem node_mono {F F' : List Int → List Int → Option (List Int)} (h : ∀ a b, LeO (F a b) (F' a b)) (L : List (List Int)) : ∀ i j, LeO (node_ F L i j) (node_ F' L i j)
  | 0, _ => LeO.refl _
  | i + 1, j => by
    unfold node_
    exact LeO.bind (node_mono h L i _) (fun x => LeO.bind (node_mono h L i _) (fun y => h x y))
theorem foldR_mono {F F' : List Int → List Int → Option (List Int)} (h : ∀ a b, LeO (F a b) (F' a b)) : ∀ l, LeO (foldR_ F l) (foldR_ F' l)
  | [] => LeO.refl _
  | [x] => LeO.refl _
  | x :: y :: l => by
    unfold foldR_
    exact LeO.bind (foldR_mono h (y :: l)) (fun t => h x t)
theorem allN_some {F : List Int → List Int → Option (List Int)} {L : List (List Int)} {n i j : Nat} (h : allN F L n = true) (hn : n < 1099511627776) (hj : (j + 1) * 2 ^ i ≤ n) : node_ F L i j = some (nodeV F L i j) := by
  have hi : i < 64 := by
    apply Nat.lt_of_not_le
    intro h2
    have h3 := Nat.pow_le_pow_right (n := 2) (by decide) h2
    have h4 : 2 ^ i ≤ (j + 1) * 2 ^ i := Nat.le_mul_of_pos_left _ (by omega)
    have h5 : (2 : Nat) ^ 64 = 18446744073709551616 := rfl
    omega
  have h1 := List.all_eq_true.mp h i (List.mem_range.mpr hi)
  have h2 := List.all_eq_true.mp h1 j (List.mem_range.mpr (by
    have hp := Nat.two_pow_pos i
    have : j + 1 ≤ n / 2 ^ i := (Nat.le_div_iff_mul_le hp).mpr hj
    omega))
  unfold nodeV
  obtain ⟨v, hv⟩ := Option.isSome_iff_exists.mp h2
  rw [hv]; rfl
theorem idsIn_at {n : Nat} {ids : List S99} {i : Nat} {id : S99} (h : idsIn n ids = true) (hi : ids[i]? = some id) : id = ⟨((id.f0.toNat : Nat) : Int), ((id.f1.toNat : Nat) : Int)⟩ ∧ (id.f1.toNat + 1) * 2 ^ id.f0.toNat ≤ n := by
  have h1 := List.all_eq_true.mp h id (List.mem_of_getElem? hi)
  simp only [Bool.and_eq_true, decide_eq_true_eq] at h1
  obtain ⟨h2, h3, h4⟩ := h1
  obtain ⟨f0, f1⟩ := id
  refine ⟨?_, h4⟩
  show (⟨f0, f1⟩ : S99) = ⟨((f0.toNat : Nat) : Int), ((f1.toNat : Nat) : Int)⟩
  rw [Int.toNat_of_nonneg h2, Int.toNat_of_nonneg h3]
theorem impl_TreeRoot.mono : ∀ a0 a1 a2 a3 a4 a5 l size k, LeO (impl_TreeRoot.f k a0 a1 a2 a3 a4 a5 l size) (impl_TreeRoot.f (k + 1) a0 a1 a2 a3 a4 a5 l size) := by
  intro a0 a1 a2 a3 a4 a5 l size k
  have hF : ∀ a b, LeO (impl_toy_HashChildren.f k a0 a1 a2 a3 a4 a5 a b) (impl_toy_HashChildren.f (k + 1) a0 a1 a2 a3 a4 a5 a b) := fun a b => impl_toy_HashChildren.mono _ _ _ _ _ _ _ _ _
  unfold impl_TreeRoot.f
  refine LeO.ite (LeO.refl _) (LeO.ite (LeO.bind (impl_texts.mono _ _) (fun x => ?_)) (LeO.refl _))
  by_cases h : x.length < 1099511627776 ∧ allN (impl_toy_HashChildren.f k a0 a1 a2 a3 a4 a5) x x.length = true
  case neg => rw [if_neg h]; exact LeO.none _
  have hV : ∀ i j, (j + 1) * 2 ^ i ≤ x.length → node_ (impl_toy_HashChildren.f (k + 1) a0 a1 a2 a3 a4 a5) x i j = some (nodeV (impl_toy_HashChildren.f k a0 a1 a2 a3 a4 a5) x i j) := fun i j hj => node_mono hF x i j _ (allN_some h.2 h.1 hj)
  have h' : x.length < 1099511627776 ∧ allN (impl_toy_HashChildren.f (k + 1) a0 a1 a2 a3 a4 a5) x x.length = true := ⟨h.1, List.all_eq_true.mpr (fun i _ => List.all_eq_true.mpr (fun j hj => by
    rw [hV i j (by
      have := List.mem_range.mp hj
      exact (Nat.le_div_iff_mul_le (Nat.two_pow_pos i)).mp (by omega))]; rfl))⟩
  rw [if_pos h, if_pos h']
  refine LeO.ite (LeO.bind (impl_toy_EmptyRoot.mono _ _ _ _ _ _ _) (fun _ => LeO.refl _)) (LeO.bind (compact_RangeNodes.mono _ _ _ _) (fun ids => ?_))
  by_cases h2 : ids.length ≤ 100000 ∧ idsIn x.length ids = true
  case neg => rw [if_neg h2]; exact LeO.none _
  rw [if_pos h2, if_pos h2]
  have e : (ids.map fun id => nodeV (impl_toy_HashChildren.f (k + 1) a0 a1 a2 a3 a4 a5) x id.f0.toNat id.f1.toNat) = ids.map fun id => nodeV (impl_toy_HashChildren.f k a0 a1 a2 a3 a4 a5) x id.f0.toNat id.f1.toNat := by
    refine List.map_congr_left (fun id hid => ?_)
    obtain ⟨i, hi⟩ := List.getElem?_of_mem hid
    have := hV _ _ (idsIn_at h2.2 hi).2
    unfold nodeV at this ⊢
    rw [this]; rfl
  rw [e]
  exact LeO.bind (foldR_mono hF _) (fun _ => LeO.refl _)
end Go.Proofs.YtielnphmcaecdaaDoor.PAll
namespace Go.Proofs.YtielnphmcaecdaaDoor.Hsh
open Go.RowKit Go.Proofs.YtielnphmcaecdaaDoor.Num Go.Proofs.YtielnphmcaecdaaDoor.Mth Go.Proofs.YtielnphmcaecdaaDoor.PAll Go.Proofs.YtielnphmcaecdaaDoorW.PrintWords Go.Proofs.YtielnphmcaecdaaDoorW.PrintLast
set_option linter.unusedVariables false
def empt (a0 a2 a3 : Int) : List Int := if a0 = 1 then wrd a3 (nb a2) else [2]
theorem hash_grows (a0 a2 a5 : Int) : Grows (hash a0 a2 a5) := hash_le a0 a2 a5
theorem spec_empty (a0 a1 a2 a3 a4 a5 : Int) {k : Nat} (hk : 30 ≤ k) : spec_EmptyRoot.f k a0 a1 a2 a3 a4 a5 = some (empt a0 a2 a3) := by
  unfold spec_EmptyRoot.f spec_Terms.f empt
  rw [Option.bind_some]
  by_cases h : a0 = 1
  · rw [if_neg (by subst h; decide), if_pos h, spec_word_eq a0 a1 a2 a3 a4 a5 a3 [] (by simp) (by simp only [List.length_nil]; omega)]; rfl
  · rw [if_pos (by exact bne_iff_ne.mpr h), if_neg h]
theorem mem_bound {l : List (List Int)} {m : Nat} (h : ∀ j, j < l.length → (l.getD j []).length ≤ m) : ∀ x ∈ l, x.length ≤ m := by
  intro x hx
  obtain ⟨i, hi⟩ := List.getElem?_of_mem hx
  have := h i (List.getElem?_eq_some_iff.1 hi).1
  rw [List.getD_eq_getElem?_getD, hi] at this
  exact this
theorem spec_Root.eq (a0 a1 a2 a3 a4 a5 : Int) : ∀ (n : Nat) (L : List (List Int)), L.length = n → n ≤ 300 → (∀ x ∈ L, x.length ≤ 5000) → ∀ K, 10000000 + n ≤ K →
    spec_Root.f K a0 a1 a2 a3 a4 a5 L = some (mth (hash a0 a2 a5) (empt a0 a2 a3) L) := by
  intro n
  induction n using Nat.strongRecOn with
  | _ n ih =>
  intro L hL hn hm K hK
  obtain ⟨K, rfl⟩ : ∃ k, K = k + 1 := ⟨K - 1, by omega⟩
  rw [spec_Root.f]
  match L, hL with
  | [], hL =>
    rw [if_pos (show ((([] : List (List Int)).length : Nat) : Int) = 0 from rfl), spec_empty _ _ _ _ _ _ (by omega), Option.bind_some, mth_nil]
  | [x], hL =>
    rw [if_neg (by simp), if_pos (show ((([x] : List (List Int)).length : Nat) : Int) = 1 from rfl), if_pos (by simp), mth_one]; rfl
  | x :: y :: l, hL =>
    generalize hLL : x :: y :: l = L at *
    have h2 : 2 ≤ L.length := by rw [← hLL]; simp
    have hp := psplit_lt h2
    have hp0 := psplit_pos L.length
    have hw : IntKind.u64.wrap (L.length : Int) = (L.length : Int) := u64in (by omega)
    have t1 : (L.take (psplit L.length)).length = psplit L.length := by rw [List.length_take]; omega
    have t2 : (L.drop (psplit L.length)).length = L.length - psplit L.length := by rw [List.length_drop]
    have b1 : ∀ x ∈ L.take (psplit L.length), x.length ≤ 5000 := fun x hx => hm x (List.mem_of_mem_take hx)
    have b2 : ∀ x ∈ L.drop (psplit L.length), x.length ≤ 5000 := fun x hx => hm x (List.mem_of_mem_drop hx)
    have m1 := mth_length (hash_grows a0 a2 a5) (empt a0 a2 a3) 5000 _ _ t1 hp0 b1
    have m2 := mth_length (hash_grows a0 a2 a5) (empt a0 a2 a3) 5000 _ _ t2 (by omega) b2
    have m3 : (5000 + 9) * psplit L.length ≤ 5009 * 300 := Nat.mul_le_mul_left _ (by omega)
    have m4 : (5000 + 9) * (L.length - psplit L.length) ≤ 5009 * 300 := Nat.mul_le_mul_left _ (by omega)
    rw [if_neg (by omega), if_neg (by omega), hw, spec_split.eq L.length h2 (by omega) K (by omega), Option.bind_some, if_pos (by omega), if_pos (by omega), Int.toNat_natCast,
      ih (psplit L.length) (by omega) _ t1 (by omega) b1 K (by omega), Option.bind_some, ih (L.length - psplit L.length) (by omega) _ t2 (by omega) b2 K (by omega), Option.bind_some,
      spec_hash _ _ _ _ _ _ _ _ (by omega) (by omega) (by omega), Option.bind_some, mth_split _ _ h2]
theorem foldR_eq (a0 a1 a2 a3 a4 a5 : Int) (E : List Int) (K : Nat) : ∀ (l : List (List Int)) (b : Nat), l ≠ [] → (l.map List.length).sum + 9 * l.length ≤ b → b ≤ 1000000000 → 2000000100 ≤ K → foldR_ (impl_toy_HashChildren.f K a0 a1 a2 a3 a4 a5) l = some (foldR (hash a0 a2 a5) E l) ∧ (foldR (hash a0 a2 a5) E l).length ≤ b
  | [], _, h, _, _, _ => absurd rfl h
  | [x], b, _, hb, _, _ => ⟨rfl, by simp at hb; show x.length ≤ b; omega⟩
  | x :: y :: l, b, _, hb, hbb, hK => by
    have hb' : x.length + 9 + (((y :: l).map List.length).sum + 9 * (y :: l).length) ≤ b := by
      rw [List.map_cons, List.sum_cons, List.length_cons] at hb; omega
    obtain ⟨h1, h2⟩ := foldR_eq a0 a1 a2 a3 a4 a5 E K (y :: l) (b - x.length - 9) (by simp) (by omega) (by omega) hK
    have h3 := hash_le a0 a2 a5 x (foldR (hash a0 a2 a5) E (y :: l))
    rw [foldR_, h1, Option.bind_some, impl_hash _ _ _ _ _ _ _ _ (by omega) (by omega) (by omega)]
    exact ⟨rfl, by show (hash a0 a2 a5 x (foldR (hash a0 a2 a5) E (y :: l))).length ≤ b; omega⟩
theorem sum_le (m : Nat) : ∀ (l : List (List Int)), (∀ x ∈ l, x.length ≤ m) → (l.map List.length).sum ≤ m * l.length
  | [], _ => by simp
  | x :: l, h => by
    have h1 := sum_le m l (fun y hy => h y (List.mem_cons_of_mem _ hy))
    have h2 := h x List.mem_cons_self
    rw [List.map_cons, List.sum_cons, List.length_cons, Nat.mul_succ]; omega
end Go.Proofs.YtielnphmcaecdaaDoor.Hsh
