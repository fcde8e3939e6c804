-- Written by a program of this session (wip/tools)
import Derived.Test.YthfgegaakfgjkaaPAllx0
namespace Go.Proofs.Ythfgegaakfgjkaa.PAll
open Go.RowKit Go.Proofs.YthfgegaakfgjkaaW.PrintWords Go.Proofs.YthfgegaakfgjkaaW.PrintLast Go.Proofs.YthfgegaakfgjkaaW.PrintMore
attribute [local go_sem] max2_int min2_int max_two min_two max_three min_three max_four min_four   -- for this text's walks alone
set_option linter.unusedVariables false
set_option linter.unusedSimpArgs false

/-! ### bits_Len64: function 20 -/
def bits_Len64.j0 : Nat → Int → Int → Option (Int)
  | 0, _, _ => none
  | k + 1, x0, x2 => if x0 ≥ 65536 then (if (x0 / 65536) ≥ 256 then (if 0 ≤ (((x0 / 65536) / 256) % 256) then (if (((x0 / 65536) / 256) % 256) < 256 then (some (wrap64 ((wrap64 ((wrap64 (x2 + 16)) + 8)) + (wrap64 (bt (⟨#[0, 1, 2, 2, 3, 3, 3, 3, 4, 4, 4, 4, 4, 4, 4, 4, 5, 5, 5, 5, 5, 5, 5, 5, 5, 5, 5, 5, 5, 5, 5, 5, 6, 6, 6, 6, 6, 6, 6, 6, 6, 6, 6, 6, 6, 6, 6, 6, 6, 6, 6, 6, 6, 6, 6, 6, 6, 6, 6, 6, 6, 6, 6, 6, 7, 7, 7, 7, 7, 7, 7, 7, 7, 7, 7, 7, 7, 7, 7, 7, 7, 7, 7, 7, 7, 7, 7, 7, 7, 7, 7, 7, 7, 7, 7, 7, 7, 7, 7, 7, 7, 7, 7, 7, 7, 7, 7, 7, 7, 7, 7, 7, 7, 7, 7, 7, 7, 7, 7, 7, 7, 7, 7, 7, 7, 7, 7, 7, 8, 8, 8, 8, 8, 8, 8, 8, 8, 8, 8, 8, 8, 8, 8, 8, 8, 8, 8, 8, 8, 8, 8, 8, 8, 8, 8, 8, 8, 8, 8, 8, 8, 8, 8, 8, 8, 8, 8, 8, 8, 8, 8, 8, 8, 8, 8, 8, 8, 8, 8, 8, 8, 8, 8, 8, 8, 8, 8, 8, 8, 8, 8, 8, 8, 8, 8, 8, 8, 8, 8, 8, 8, 8, 8, 8, 8, 8, 8, 8, 8, 8, 8, 8, 8, 8, 8, 8, 8, 8, 8, 8, 8, 8, 8, 8, 8, 8, 8, 8, 8, 8, 8, 8, 8, 8, 8, 8, 8, 8, 8, 8, 8, 8, 8, 8, 8, 8, 8, 8, 8, 8, 8, 8, 8, 8, 8, 8]⟩ : ByteArray) (((x0 / 65536) / 256) % 256)))))) else (none)) else (none)) else (if 0 ≤ ((x0 / 65536) % 256) then (if ((x0 / 65536) % 256) < 256 then (some (wrap64 ((wrap64 (x2 + 16)) + (wrap64 (bt (⟨#[0, 1, 2, 2, 3, 3, 3, 3, 4, 4, 4, 4, 4, 4, 4, 4, 5, 5, 5, 5, 5, 5, 5, 5, 5, 5, 5, 5, 5, 5, 5, 5, 6, 6, 6, 6, 6, 6, 6, 6, 6, 6, 6, 6, 6, 6, 6, 6, 6, 6, 6, 6, 6, 6, 6, 6, 6, 6, 6, 6, 6, 6, 6, 6, 7, 7, 7, 7, 7, 7, 7, 7, 7, 7, 7, 7, 7, 7, 7, 7, 7, 7, 7, 7, 7, 7, 7, 7, 7, 7, 7, 7, 7, 7, 7, 7, 7, 7, 7, 7, 7, 7, 7, 7, 7, 7, 7, 7, 7, 7, 7, 7, 7, 7, 7, 7, 7, 7, 7, 7, 7, 7, 7, 7, 7, 7, 7, 7, 8, 8, 8, 8, 8, 8, 8, 8, 8, 8, 8, 8, 8, 8, 8, 8, 8, 8, 8, 8, 8, 8, 8, 8, 8, 8, 8, 8, 8, 8, 8, 8, 8, 8, 8, 8, 8, 8, 8, 8, 8, 8, 8, 8, 8, 8, 8, 8, 8, 8, 8, 8, 8, 8, 8, 8, 8, 8, 8, 8, 8, 8, 8, 8, 8, 8, 8, 8, 8, 8, 8, 8, 8, 8, 8, 8, 8, 8, 8, 8, 8, 8, 8, 8, 8, 8, 8, 8, 8, 8, 8, 8, 8, 8, 8, 8, 8, 8, 8, 8, 8, 8, 8, 8, 8, 8, 8, 8, 8, 8, 8, 8, 8, 8, 8, 8, 8, 8, 8, 8, 8, 8, 8, 8, 8, 8, 8, 8]⟩ : ByteArray) ((x0 / 65536) % 256)))))) else (none)) else (none))) else (if x0 ≥ 256 then (if 0 ≤ ((x0 / 256) % 256) then (if ((x0 / 256) % 256) < 256 then (some (wrap64 ((wrap64 (x2 + 8)) + (wrap64 (bt (⟨#[0, 1, 2, 2, 3, 3, 3, 3, 4, 4, 4, 4, 4, 4, 4, 4, 5, 5, 5, 5, 5, 5, 5, 5, 5, 5, 5, 5, 5, 5, 5, 5, 6, 6, 6, 6, 6, 6, 6, 6, 6, 6, 6, 6, 6, 6, 6, 6, 6, 6, 6, 6, 6, 6, 6, 6, 6, 6, 6, 6, 6, 6, 6, 6, 7, 7, 7, 7, 7, 7, 7, 7, 7, 7, 7, 7, 7, 7, 7, 7, 7, 7, 7, 7, 7, 7, 7, 7, 7, 7, 7, 7, 7, 7, 7, 7, 7, 7, 7, 7, 7, 7, 7, 7, 7, 7, 7, 7, 7, 7, 7, 7, 7, 7, 7, 7, 7, 7, 7, 7, 7, 7, 7, 7, 7, 7, 7, 7, 8, 8, 8, 8, 8, 8, 8, 8, 8, 8, 8, 8, 8, 8, 8, 8, 8, 8, 8, 8, 8, 8, 8, 8, 8, 8, 8, 8, 8, 8, 8, 8, 8, 8, 8, 8, 8, 8, 8, 8, 8, 8, 8, 8, 8, 8, 8, 8, 8, 8, 8, 8, 8, 8, 8, 8, 8, 8, 8, 8, 8, 8, 8, 8, 8, 8, 8, 8, 8, 8, 8, 8, 8, 8, 8, 8, 8, 8, 8, 8, 8, 8, 8, 8, 8, 8, 8, 8, 8, 8, 8, 8, 8, 8, 8, 8, 8, 8, 8, 8, 8, 8, 8, 8, 8, 8, 8, 8, 8, 8, 8, 8, 8, 8, 8, 8, 8, 8, 8, 8, 8, 8, 8, 8, 8, 8, 8, 8]⟩ : ByteArray) ((x0 / 256) % 256)))))) else (none)) else (none)) else (if 0 ≤ ((x0) % 256) then (if ((x0) % 256) < 256 then (some (wrap64 (x2 + (wrap64 (bt (⟨#[0, 1, 2, 2, 3, 3, 3, 3, 4, 4, 4, 4, 4, 4, 4, 4, 5, 5, 5, 5, 5, 5, 5, 5, 5, 5, 5, 5, 5, 5, 5, 5, 6, 6, 6, 6, 6, 6, 6, 6, 6, 6, 6, 6, 6, 6, 6, 6, 6, 6, 6, 6, 6, 6, 6, 6, 6, 6, 6, 6, 6, 6, 6, 6, 7, 7, 7, 7, 7, 7, 7, 7, 7, 7, 7, 7, 7, 7, 7, 7, 7, 7, 7, 7, 7, 7, 7, 7, 7, 7, 7, 7, 7, 7, 7, 7, 7, 7, 7, 7, 7, 7, 7, 7, 7, 7, 7, 7, 7, 7, 7, 7, 7, 7, 7, 7, 7, 7, 7, 7, 7, 7, 7, 7, 7, 7, 7, 7, 8, 8, 8, 8, 8, 8, 8, 8, 8, 8, 8, 8, 8, 8, 8, 8, 8, 8, 8, 8, 8, 8, 8, 8, 8, 8, 8, 8, 8, 8, 8, 8, 8, 8, 8, 8, 8, 8, 8, 8, 8, 8, 8, 8, 8, 8, 8, 8, 8, 8, 8, 8, 8, 8, 8, 8, 8, 8, 8, 8, 8, 8, 8, 8, 8, 8, 8, 8, 8, 8, 8, 8, 8, 8, 8, 8, 8, 8, 8, 8, 8, 8, 8, 8, 8, 8, 8, 8, 8, 8, 8, 8, 8, 8, 8, 8, 8, 8, 8, 8, 8, 8, 8, 8, 8, 8, 8, 8, 8, 8, 8, 8, 8, 8, 8, 8, 8, 8, 8, 8, 8, 8, 8, 8, 8, 8, 8, 8]⟩ : ByteArray) ((x0) % 256)))))) else (none)) else (none)))
def bits_Len64.f (k : Nat) (a0 : Int) : Option (Int) := if a0 ≥ 4294967296 then (bits_Len64.j0 k (a0 / 4294967296) 32) else (bits_Len64.j0 k a0 0)
theorem bits_Len64.mono_l : ∀ k, (∀ y0 y1, LeO (bits_Len64.j0 k y0 y1) (bits_Len64.j0 (k + 1) y0 y1))
  | 0 => fun _ _ r h => by simp [bits_Len64.j0] at h
  | k + 1 => by
    have ih0 := bits_Len64.mono_l k
    · intro y0 y1
      unfold bits_Len64.j0
      repeat' first
      | (with_reducible exact ih0 _ _)
      | (with_reducible exact LeO.refl _)
      | (with_reducible exact LeO.none _)
      | (with_reducible refine LeO.ite ?_ ?_)
      | (with_reducible refine LeO.bind ?_ (fun _ => ?_))
      | exact ih0 _ _
      | exact LeO.none _
      | refine LeO.ite ?_ ?_
      | refine LeO.bind ?_ (fun _ => ?_)
theorem bits_Len64.mono : ∀ a0 k, LeO (bits_Len64.f k a0) (bits_Len64.f (k + 1) a0) := by
  intro a0 k
  have ih0 := bits_Len64.mono_l k
  unfold bits_Len64.f
  repeat' first
      | (with_reducible exact ih0 _ _)
      | (with_reducible exact LeO.refl _)
      | (with_reducible exact LeO.none _)
      | (with_reducible refine LeO.ite ?_ ?_)
      | (with_reducible refine LeO.bind ?_ (fun _ => ?_))
      | exact ih0 _ _
      | exact LeO.none _
      | refine LeO.ite ?_ ?_
      | refine LeO.bind ?_ (fun _ => ?_)
set_option maxHeartbeats 8000000 in
set_option maxRecDepth 100000 in
theorem bits_Len64.calls (k : Nat) (a0 : Int) (r : Int) (w : World) (h : bits_Len64.f k a0 = some r) :
    Calls Try.prog 20 #[.int .u64 a0] w fun e w' => e = .returned (.int .i64 r) ∧ Drawn0 w w' := by
  have H : (if a0 ≥ 4294967296 then (bits_Len64.j0 k (a0 / 4294967296) 32) else (bits_Len64.j0 k a0 0)) = some r := h
  clear h
  have HC2 := Aside0.mk H
  clear H
  go_enter Try.func20, Try.ntmps20
  go_upto_if 4 with (fail)
  go_cut [0, 2] (fun v0 v2 wc => ∃ (kq : Nat) (x0_1 : Int) (x2_1 : Int), v0 = .int .u64 x0_1 ∧ v2 = .int .i64 x2_1 ∧ Aside0 (bits_Len64.j0 kq x0_1 x2_1 = some r) ∧ Aside0 (kq ≤ k) ∧ Drawn0 w wc)
  case first =>
    have H := HC2.out
    clear HC2
    by_cases c3 : a0 ≥ 4294967296
    · rw [if_pos c3] at H
      have c3b0 : decide (4294967296 ≤ a0) = true := decide_eq_true c3
      clear c3
      (first | rw [c3b0] | (simp only [i64_w, i32_w]; rw [c3b0]) | skip)
      have H' := Aside0.mk H
      clear H
      go_wp2
      go_meet
      case rel => exact ⟨_, (a0 / 4294967296), (32), (by first | rfl | (simp; done) | (simp [*]; done)), (by first | rfl | (simp; done) | (simp [*]; done)), H', ⟨by first | omega | exact Nat.le_refl _⟩, by repeat (first | exact Drawn0.refl _ | apply Drawn0.step)⟩
    · rw [if_neg c3] at H
      have c3b0 : decide (4294967296 ≤ a0) = false := decide_eq_false c3
      clear c3
      (first | rw [c3b0] | (simp only [i64_w, i32_w]; rw [c3b0]) | skip)
      have H' := Aside0.mk H
      clear H
      go_wp2
      go_meet
      case rel => exact ⟨_, (a0), (0), (by first | rfl | (simp; done) | (simp [*]; done)), (by first | rfl | (simp; done) | (simp [*]; done)), H', ⟨by first | omega | exact Nat.le_refl _⟩, by repeat (first | exact Drawn0.refl _ | apply Drawn0.step)⟩
  case rest =>
    clear HC2
    try clear c2
    try clear p2
    try clear c3
    try clear c3b0
    obtain ⟨kq, x0_1, x2_1, rfl, rfl, HA, HJ1, ⟨mc1, rfl⟩⟩ := hcut
    cases kq with
    | zero => exact absurd HA.out (by simp [bits_Len64.j0])
    | succ kj1 =>
      have H := HA.out
      clear HA
      simp only [bits_Len64.j0] at H
      by_cases c4 : x0_1 ≥ 65536
      · rw [if_pos c4] at H
        have c4b0 : decide (65536 ≤ x0_1) = true := decide_eq_true c4
        clear c4
        by_cases c5 : (x0_1 / 65536) ≥ 256
        · rw [if_pos c5] at H
          have c5b0 : decide (256 ≤ (x0_1 / 65536)) = true := decide_eq_true c5
          clear c5
          obtain ⟨ji6, hji6⟩ : ∃ j_ : Int, (((x0_1 / 65536) / 256) % 256) = j_ := ⟨_, rfl⟩
          replace H : (if 0 ≤ (ji6) then (if (ji6) < 256 then (some (wrap64 ((wrap64 ((wrap64 (x2_1 + 16)) + 8)) + (wrap64 (bt (⟨#[0, 1, 2, 2, 3, 3, 3, 3, 4, 4, 4, 4, 4, 4, 4, 4, 5, 5, 5, 5, 5, 5, 5, 5, 5, 5, 5, 5, 5, 5, 5, 5, 6, 6, 6, 6, 6, 6, 6, 6, 6, 6, 6, 6, 6, 6, 6, 6, 6, 6, 6, 6, 6, 6, 6, 6, 6, 6, 6, 6, 6, 6, 6, 6, 7, 7, 7, 7, 7, 7, 7, 7, 7, 7, 7, 7, 7, 7, 7, 7, 7, 7, 7, 7, 7, 7, 7, 7, 7, 7, 7, 7, 7, 7, 7, 7, 7, 7, 7, 7, 7, 7, 7, 7, 7, 7, 7, 7, 7, 7, 7, 7, 7, 7, 7, 7, 7, 7, 7, 7, 7, 7, 7, 7, 7, 7, 7, 7, 8, 8, 8, 8, 8, 8, 8, 8, 8, 8, 8, 8, 8, 8, 8, 8, 8, 8, 8, 8, 8, 8, 8, 8, 8, 8, 8, 8, 8, 8, 8, 8, 8, 8, 8, 8, 8, 8, 8, 8, 8, 8, 8, 8, 8, 8, 8, 8, 8, 8, 8, 8, 8, 8, 8, 8, 8, 8, 8, 8, 8, 8, 8, 8, 8, 8, 8, 8, 8, 8, 8, 8, 8, 8, 8, 8, 8, 8, 8, 8, 8, 8, 8, 8, 8, 8, 8, 8, 8, 8, 8, 8, 8, 8, 8, 8, 8, 8, 8, 8, 8, 8, 8, 8, 8, 8, 8, 8, 8, 8, 8, 8, 8, 8, 8, 8, 8, 8, 8, 8, 8, 8, 8, 8, 8, 8, 8, 8]⟩ : ByteArray) (ji6)))))) else (none)) else (none)) = some r := by first | (rw [hji6] at H; exact H) | (simp only [hji6] at H ⊢; exact H)
          by_cases c7 : 0 ≤ (ji6)
          · rw [if_pos c7] at H
            have c7b0 : decide (0 ≤ (ji6)) = true := decide_eq_true c7
            clear c7
            by_cases c8 : (ji6) < 256
            · rw [if_pos c8] at H
              have c8b0 : decide ((ji6) < 256) = true := decide_eq_true c8
              clear c8
              obtain rfl := Option.some.inj H
              have p9 : 0 ≤ ((ji6) : Int) := of_decide_eq_true (by first | (with_reducible assumption) | assumption)
              have q9 : (ji6) < (256 : Int) := of_decide_eq_true (by first | (with_reducible assumption) | assumption)
              have hx9 := bt_at (⟨#[0, 1, 2, 2, 3, 3, 3, 3, 4, 4, 4, 4, 4, 4, 4, 4, 5, 5, 5, 5, 5, 5, 5, 5, 5, 5, 5, 5, 5, 5, 5, 5, 6, 6, 6, 6, 6, 6, 6, 6, 6, 6, 6, 6, 6, 6, 6, 6, 6, 6, 6, 6, 6, 6, 6, 6, 6, 6, 6, 6, 6, 6, 6, 6, 7, 7, 7, 7, 7, 7, 7, 7, 7, 7, 7, 7, 7, 7, 7, 7, 7, 7, 7, 7, 7, 7, 7, 7, 7, 7, 7, 7, 7, 7, 7, 7, 7, 7, 7, 7, 7, 7, 7, 7, 7, 7, 7, 7, 7, 7, 7, 7, 7, 7, 7, 7, 7, 7, 7, 7, 7, 7, 7, 7, 7, 7, 7, 7, 8, 8, 8, 8, 8, 8, 8, 8, 8, 8, 8, 8, 8, 8, 8, 8, 8, 8, 8, 8, 8, 8, 8, 8, 8, 8, 8, 8, 8, 8, 8, 8, 8, 8, 8, 8, 8, 8, 8, 8, 8, 8, 8, 8, 8, 8, 8, 8, 8, 8, 8, 8, 8, 8, 8, 8, 8, 8, 8, 8, 8, 8, 8, 8, 8, 8, 8, 8, 8, 8, 8, 8, 8, 8, 8, 8, 8, 8, 8, 8, 8, 8, 8, 8, 8, 8, 8, 8, 8, 8, 8, 8, 8, 8, 8, 8, 8, 8, 8, 8, 8, 8, 8, 8, 8, 8, 8, 8, 8, 8, 8, 8, 8, 8, 8, 8, 8, 8, 8, 8, 8, 8, 8, 8, 8, 8, 8, 8]⟩ : ByteArray) (ji6)
              replace p9 := eq_true p9
              replace q9 := eq_true q9
              go_wp2
              go_ret
              exact ⟨by first | rfl | (simp; done) | (simp only [← hji6] <;> (first | rfl | simp)) | (simp [*]; done), by repeat (first | exact Drawn0.refl _ | apply Drawn0.step)⟩
            · rw [if_neg c8] at H
              exact absurd H (by simp)
          · rw [if_neg c7] at H
            exact absurd H (by simp)
        · rw [if_neg c5] at H
          have c5b0 : decide (256 ≤ (x0_1 / 65536)) = false := decide_eq_false c5
          clear c5
          obtain ⟨ji10, hji10⟩ : ∃ j_ : Int, ((x0_1 / 65536) % 256) = j_ := ⟨_, rfl⟩
          replace H : (if 0 ≤ (ji10) then (if (ji10) < 256 then (some (wrap64 ((wrap64 (x2_1 + 16)) + (wrap64 (bt (⟨#[0, 1, 2, 2, 3, 3, 3, 3, 4, 4, 4, 4, 4, 4, 4, 4, 5, 5, 5, 5, 5, 5, 5, 5, 5, 5, 5, 5, 5, 5, 5, 5, 6, 6, 6, 6, 6, 6, 6, 6, 6, 6, 6, 6, 6, 6, 6, 6, 6, 6, 6, 6, 6, 6, 6, 6, 6, 6, 6, 6, 6, 6, 6, 6, 7, 7, 7, 7, 7, 7, 7, 7, 7, 7, 7, 7, 7, 7, 7, 7, 7, 7, 7, 7, 7, 7, 7, 7, 7, 7, 7, 7, 7, 7, 7, 7, 7, 7, 7, 7, 7, 7, 7, 7, 7, 7, 7, 7, 7, 7, 7, 7, 7, 7, 7, 7, 7, 7, 7, 7, 7, 7, 7, 7, 7, 7, 7, 7, 8, 8, 8, 8, 8, 8, 8, 8, 8, 8, 8, 8, 8, 8, 8, 8, 8, 8, 8, 8, 8, 8, 8, 8, 8, 8, 8, 8, 8, 8, 8, 8, 8, 8, 8, 8, 8, 8, 8, 8, 8, 8, 8, 8, 8, 8, 8, 8, 8, 8, 8, 8, 8, 8, 8, 8, 8, 8, 8, 8, 8, 8, 8, 8, 8, 8, 8, 8, 8, 8, 8, 8, 8, 8, 8, 8, 8, 8, 8, 8, 8, 8, 8, 8, 8, 8, 8, 8, 8, 8, 8, 8, 8, 8, 8, 8, 8, 8, 8, 8, 8, 8, 8, 8, 8, 8, 8, 8, 8, 8, 8, 8, 8, 8, 8, 8, 8, 8, 8, 8, 8, 8, 8, 8, 8, 8, 8, 8]⟩ : ByteArray) (ji10)))))) else (none)) else (none)) = some r := by first | (rw [hji10] at H; exact H) | (simp only [hji10] at H ⊢; exact H)
          by_cases c11 : 0 ≤ (ji10)
          · rw [if_pos c11] at H
            have c11b0 : decide (0 ≤ (ji10)) = true := decide_eq_true c11
            clear c11
            by_cases c12 : (ji10) < 256
            · rw [if_pos c12] at H
              have c12b0 : decide ((ji10) < 256) = true := decide_eq_true c12
              clear c12
              obtain rfl := Option.some.inj H
              have p13 : 0 ≤ ((ji10) : Int) := of_decide_eq_true (by first | (with_reducible assumption) | assumption)
              have q13 : (ji10) < (256 : Int) := of_decide_eq_true (by first | (with_reducible assumption) | assumption)
              have hx13 := bt_at (⟨#[0, 1, 2, 2, 3, 3, 3, 3, 4, 4, 4, 4, 4, 4, 4, 4, 5, 5, 5, 5, 5, 5, 5, 5, 5, 5, 5, 5, 5, 5, 5, 5, 6, 6, 6, 6, 6, 6, 6, 6, 6, 6, 6, 6, 6, 6, 6, 6, 6, 6, 6, 6, 6, 6, 6, 6, 6, 6, 6, 6, 6, 6, 6, 6, 7, 7, 7, 7, 7, 7, 7, 7, 7, 7, 7, 7, 7, 7, 7, 7, 7, 7, 7, 7, 7, 7, 7, 7, 7, 7, 7, 7, 7, 7, 7, 7, 7, 7, 7, 7, 7, 7, 7, 7, 7, 7, 7, 7, 7, 7, 7, 7, 7, 7, 7, 7, 7, 7, 7, 7, 7, 7, 7, 7, 7, 7, 7, 7, 8, 8, 8, 8, 8, 8, 8, 8, 8, 8, 8, 8, 8, 8, 8, 8, 8, 8, 8, 8, 8, 8, 8, 8, 8, 8, 8, 8, 8, 8, 8, 8, 8, 8, 8, 8, 8, 8, 8, 8, 8, 8, 8, 8, 8, 8, 8, 8, 8, 8, 8, 8, 8, 8, 8, 8, 8, 8, 8, 8, 8, 8, 8, 8, 8, 8, 8, 8, 8, 8, 8, 8, 8, 8, 8, 8, 8, 8, 8, 8, 8, 8, 8, 8, 8, 8, 8, 8, 8, 8, 8, 8, 8, 8, 8, 8, 8, 8, 8, 8, 8, 8, 8, 8, 8, 8, 8, 8, 8, 8, 8, 8, 8, 8, 8, 8, 8, 8, 8, 8, 8, 8, 8, 8, 8, 8, 8, 8]⟩ : ByteArray) (ji10)
              replace p13 := eq_true p13
              replace q13 := eq_true q13
              go_wp2
              go_ret
              exact ⟨by first | rfl | (simp; done) | (simp only [← hji10] <;> (first | rfl | simp)) | (simp [*]; done), by repeat (first | exact Drawn0.refl _ | apply Drawn0.step)⟩
            · rw [if_neg c12] at H
              exact absurd H (by simp)
          · rw [if_neg c11] at H
            exact absurd H (by simp)
      · rw [if_neg c4] at H
        have c4b0 : decide (65536 ≤ x0_1) = false := decide_eq_false c4
        clear c4
        by_cases c14 : x0_1 ≥ 256
        · rw [if_pos c14] at H
          have c14b0 : decide (256 ≤ x0_1) = true := decide_eq_true c14
          clear c14
          obtain ⟨ji15, hji15⟩ : ∃ j_ : Int, ((x0_1 / 256) % 256) = j_ := ⟨_, rfl⟩
          replace H : (if 0 ≤ (ji15) then (if (ji15) < 256 then (some (wrap64 ((wrap64 (x2_1 + 8)) + (wrap64 (bt (⟨#[0, 1, 2, 2, 3, 3, 3, 3, 4, 4, 4, 4, 4, 4, 4, 4, 5, 5, 5, 5, 5, 5, 5, 5, 5, 5, 5, 5, 5, 5, 5, 5, 6, 6, 6, 6, 6, 6, 6, 6, 6, 6, 6, 6, 6, 6, 6, 6, 6, 6, 6, 6, 6, 6, 6, 6, 6, 6, 6, 6, 6, 6, 6, 6, 7, 7, 7, 7, 7, 7, 7, 7, 7, 7, 7, 7, 7, 7, 7, 7, 7, 7, 7, 7, 7, 7, 7, 7, 7, 7, 7, 7, 7, 7, 7, 7, 7, 7, 7, 7, 7, 7, 7, 7, 7, 7, 7, 7, 7, 7, 7, 7, 7, 7, 7, 7, 7, 7, 7, 7, 7, 7, 7, 7, 7, 7, 7, 7, 8, 8, 8, 8, 8, 8, 8, 8, 8, 8, 8, 8, 8, 8, 8, 8, 8, 8, 8, 8, 8, 8, 8, 8, 8, 8, 8, 8, 8, 8, 8, 8, 8, 8, 8, 8, 8, 8, 8, 8, 8, 8, 8, 8, 8, 8, 8, 8, 8, 8, 8, 8, 8, 8, 8, 8, 8, 8, 8, 8, 8, 8, 8, 8, 8, 8, 8, 8, 8, 8, 8, 8, 8, 8, 8, 8, 8, 8, 8, 8, 8, 8, 8, 8, 8, 8, 8, 8, 8, 8, 8, 8, 8, 8, 8, 8, 8, 8, 8, 8, 8, 8, 8, 8, 8, 8, 8, 8, 8, 8, 8, 8, 8, 8, 8, 8, 8, 8, 8, 8, 8, 8, 8, 8, 8, 8, 8, 8]⟩ : ByteArray) (ji15)))))) else (none)) else (none)) = some r := by first | (rw [hji15] at H; exact H) | (simp only [hji15] at H ⊢; exact H)
          by_cases c16 : 0 ≤ (ji15)
          · rw [if_pos c16] at H
            have c16b0 : decide (0 ≤ (ji15)) = true := decide_eq_true c16
            clear c16
            by_cases c17 : (ji15) < 256
            · rw [if_pos c17] at H
              have c17b0 : decide ((ji15) < 256) = true := decide_eq_true c17
              clear c17
              obtain rfl := Option.some.inj H
              have p18 : 0 ≤ ((ji15) : Int) := of_decide_eq_true (by first | (with_reducible assumption) | assumption)
              have q18 : (ji15) < (256 : Int) := of_decide_eq_true (by first | (with_reducible assumption) | assumption)
              have hx18 := bt_at (⟨#[0, 1, 2, 2, 3, 3, 3, 3, 4, 4, 4, 4, 4, 4, 4, 4, 5, 5, 5, 5, 5, 5, 5, 5, 5, 5, 5, 5, 5, 5, 5, 5, 6, 6, 6, 6, 6, 6, 6, 6, 6, 6, 6, 6, 6, 6, 6, 6, 6, 6, 6, 6, 6, 6, 6, 6, 6, 6, 6, 6, 6, 6, 6, 6, 7, 7, 7, 7, 7, 7, 7, 7, 7, 7, 7, 7, 7, 7, 7, 7, 7, 7, 7, 7, 7, 7, 7, 7, 7, 7, 7, 7, 7, 7, 7, 7, 7, 7, 7, 7, 7, 7, 7, 7, 7, 7, 7, 7, 7, 7, 7, 7, 7, 7, 7, 7, 7, 7, 7, 7, 7, 7, 7, 7, 7, 7, 7, 7, 8, 8, 8, 8, 8, 8, 8, 8, 8, 8, 8, 8, 8, 8, 8, 8, 8, 8, 8, 8, 8, 8, 8, 8, 8, 8, 8, 8, 8, 8, 8, 8, 8, 8, 8, 8, 8, 8, 8, 8, 8, 8, 8, 8, 8, 8, 8, 8, 8, 8, 8, 8, 8, 8, 8, 8, 8, 8, 8, 8, 8, 8, 8, 8, 8, 8, 8, 8, 8, 8, 8, 8, 8, 8, 8, 8, 8, 8, 8, 8, 8, 8, 8, 8, 8, 8, 8, 8, 8, 8, 8, 8, 8, 8, 8, 8, 8, 8, 8, 8, 8, 8, 8, 8, 8, 8, 8, 8, 8, 8, 8, 8, 8, 8, 8, 8, 8, 8, 8, 8, 8, 8, 8, 8, 8, 8, 8, 8]⟩ : ByteArray) (ji15)
              replace p18 := eq_true p18
              replace q18 := eq_true q18
              go_wp2
              go_ret
              exact ⟨by first | rfl | (simp; done) | (simp only [← hji15] <;> (first | rfl | simp)) | (simp [*]; done), by repeat (first | exact Drawn0.refl _ | apply Drawn0.step)⟩
            · rw [if_neg c17] at H
              exact absurd H (by simp)
          · rw [if_neg c16] at H
            exact absurd H (by simp)
        · rw [if_neg c14] at H
          have c14b0 : decide (256 ≤ x0_1) = false := decide_eq_false c14
          clear c14
          obtain ⟨ji19, hji19⟩ : ∃ j_ : Int, ((x0_1) % 256) = j_ := ⟨_, rfl⟩
          replace H : (if 0 ≤ (ji19) then (if (ji19) < 256 then (some (wrap64 (x2_1 + (wrap64 (bt (⟨#[0, 1, 2, 2, 3, 3, 3, 3, 4, 4, 4, 4, 4, 4, 4, 4, 5, 5, 5, 5, 5, 5, 5, 5, 5, 5, 5, 5, 5, 5, 5, 5, 6, 6, 6, 6, 6, 6, 6, 6, 6, 6, 6, 6, 6, 6, 6, 6, 6, 6, 6, 6, 6, 6, 6, 6, 6, 6, 6, 6, 6, 6, 6, 6, 7, 7, 7, 7, 7, 7, 7, 7, 7, 7, 7, 7, 7, 7, 7, 7, 7, 7, 7, 7, 7, 7, 7, 7, 7, 7, 7, 7, 7, 7, 7, 7, 7, 7, 7, 7, 7, 7, 7, 7, 7, 7, 7, 7, 7, 7, 7, 7, 7, 7, 7, 7, 7, 7, 7, 7, 7, 7, 7, 7, 7, 7, 7, 7, 8, 8, 8, 8, 8, 8, 8, 8, 8, 8, 8, 8, 8, 8, 8, 8, 8, 8, 8, 8, 8, 8, 8, 8, 8, 8, 8, 8, 8, 8, 8, 8, 8, 8, 8, 8, 8, 8, 8, 8, 8, 8, 8, 8, 8, 8, 8, 8, 8, 8, 8, 8, 8, 8, 8, 8, 8, 8, 8, 8, 8, 8, 8, 8, 8, 8, 8, 8, 8, 8, 8, 8, 8, 8, 8, 8, 8, 8, 8, 8, 8, 8, 8, 8, 8, 8, 8, 8, 8, 8, 8, 8, 8, 8, 8, 8, 8, 8, 8, 8, 8, 8, 8, 8, 8, 8, 8, 8, 8, 8, 8, 8, 8, 8, 8, 8, 8, 8, 8, 8, 8, 8, 8, 8, 8, 8, 8, 8]⟩ : ByteArray) (ji19)))))) else (none)) else (none)) = some r := by first | (rw [hji19] at H; exact H) | (simp only [hji19] at H ⊢; exact H)
          by_cases c20 : 0 ≤ (ji19)
          · rw [if_pos c20] at H
            have c20b0 : decide (0 ≤ (ji19)) = true := decide_eq_true c20
            clear c20
            by_cases c21 : (ji19) < 256
            · rw [if_pos c21] at H
              have c21b0 : decide ((ji19) < 256) = true := decide_eq_true c21
              clear c21
              obtain rfl := Option.some.inj H
              have p22 : 0 ≤ ((ji19) : Int) := of_decide_eq_true (by first | (with_reducible assumption) | assumption)
              have q22 : (ji19) < (256 : Int) := of_decide_eq_true (by first | (with_reducible assumption) | assumption)
              have hx22 := bt_at (⟨#[0, 1, 2, 2, 3, 3, 3, 3, 4, 4, 4, 4, 4, 4, 4, 4, 5, 5, 5, 5, 5, 5, 5, 5, 5, 5, 5, 5, 5, 5, 5, 5, 6, 6, 6, 6, 6, 6, 6, 6, 6, 6, 6, 6, 6, 6, 6, 6, 6, 6, 6, 6, 6, 6, 6, 6, 6, 6, 6, 6, 6, 6, 6, 6, 7, 7, 7, 7, 7, 7, 7, 7, 7, 7, 7, 7, 7, 7, 7, 7, 7, 7, 7, 7, 7, 7, 7, 7, 7, 7, 7, 7, 7, 7, 7, 7, 7, 7, 7, 7, 7, 7, 7, 7, 7, 7, 7, 7, 7, 7, 7, 7, 7, 7, 7, 7, 7, 7, 7, 7, 7, 7, 7, 7, 7, 7, 7, 7, 8, 8, 8, 8, 8, 8, 8, 8, 8, 8, 8, 8, 8, 8, 8, 8, 8, 8, 8, 8, 8, 8, 8, 8, 8, 8, 8, 8, 8, 8, 8, 8, 8, 8, 8, 8, 8, 8, 8, 8, 8, 8, 8, 8, 8, 8, 8, 8, 8, 8, 8, 8, 8, 8, 8, 8, 8, 8, 8, 8, 8, 8, 8, 8, 8, 8, 8, 8, 8, 8, 8, 8, 8, 8, 8, 8, 8, 8, 8, 8, 8, 8, 8, 8, 8, 8, 8, 8, 8, 8, 8, 8, 8, 8, 8, 8, 8, 8, 8, 8, 8, 8, 8, 8, 8, 8, 8, 8, 8, 8, 8, 8, 8, 8, 8, 8, 8, 8, 8, 8, 8, 8, 8, 8, 8, 8, 8, 8]⟩ : ByteArray) (ji19)
              replace p22 := eq_true p22
              replace q22 := eq_true q22
              go_wp2
              go_ret
              exact ⟨by first | rfl | (simp; done) | (simp only [← hji19] <;> (first | rfl | simp)) | (simp [*]; done), by repeat (first | exact Drawn0.refl _ | apply Drawn0.step)⟩
            · rw [if_neg c21] at H
              exact absurd H (by simp)
          · rw [if_neg c20] at H
            exact absurd H (by simp)

/-! ### proof_innerProofSize: function 18 -/
def proof_innerProofSize.f (k : Nat) (a0 : Int) (a1 : Int) : Option (Int) := (bits_Len64.f k (Go.bits .xor .u64 a0 (IntKind.u64.wrap (a1 - 1)))).bind fun t143 => (some t143)
theorem proof_innerProofSize.mono : ∀ a0 a1 k, LeO (proof_innerProofSize.f k a0 a1) (proof_innerProofSize.f (k + 1) a0 a1) := by
  intro a0 a1 k
  unfold proof_innerProofSize.f
  repeat' first
      | (with_reducible exact bits_Len64.mono _ _)
      | (with_reducible exact LeO.refl _)
      | (with_reducible exact LeO.none _)
      | (with_reducible refine LeO.ite ?_ ?_)
      | (with_reducible refine LeO.bind ?_ (fun _ => ?_))
      | exact bits_Len64.mono _ _
      | exact LeO.none _
      | refine LeO.ite ?_ ?_
      | refine LeO.bind ?_ (fun _ => ?_)
set_option maxHeartbeats 8000000 in
set_option maxRecDepth 100000 in
theorem proof_innerProofSize.calls (k : Nat) (a0 : Int) (a1 : Int) (r : Int) (w : World) (h : proof_innerProofSize.f k a0 a1 = some r) :
    Calls Try.prog 18 #[.int .u64 a0, .int .u64 a1] w fun e w' => e = .returned (.int .i64 r) ∧ Drawn0 w w' := by
  have H : ((bits_Len64.f k (Go.bits .xor .u64 a0 (IntKind.u64.wrap (a1 - 1)))).bind fun t143 => (some t143)) = some r := h
  clear h
  replace H := Option.bind_eq_some_iff.mp H
  obtain ⟨t143, A30, H⟩ := H
  replace H : (some t143) = some r := H
  have A3 := Aside0.mk A30
  clear A30
  obtain rfl := Option.some.inj H
  go_enter Try.func18, Try.ntmps18
  go_wp2_with (first | ((with_reducible refine gate_callee (f := 20) rfl ?_); refine goesL_ (some 9) rfl rfl Try.func20 (by kernel_rfl) rfl #[.int .u64 (Go.bits .xor .u64 a0 (IntKind.u64.wrap (a1 - 1)))] rfl (by (try simp only [List.map_toArray, List.map_cons, List.map_nil]); first | done | rfl | (simp only [List.length_drop, List.length_take]; rfl)) ?_; (with_reducible refine (bits_Len64.calls k (Go.bits .xor .u64 a0 (IntKind.u64.wrap (a1 - 1))) t143 _ A3.out).mono ?_); rintro e w' ⟨rfl, ⟨nd, rfl⟩⟩; refine ⟨_, rfl, ?_⟩))
  go_ret
  exact ⟨by first | rfl | (simp; done) | (simp [*]; done), by repeat (first | exact Drawn0.refl _ | apply Drawn0.step)⟩

/-! ### bits_OnesCount64: function 19 -/
def bits_OnesCount64.f (a0 : Int) : Option (Int) := some (Go.bits .and .i64 (wrap64 (IntKind.u64.wrap ((IntKind.u64.wrap ((IntKind.u64.wrap ((Go.bits .and .u64 (IntKind.u64.wrap (((IntKind.u64.wrap ((Go.bits .and .u64 ((IntKind.u64.wrap ((Go.bits .and .u64 (a0 / 2) 6148914691236517205) + (Go.bits .and .u64 a0 6148914691236517205))) / 4) 3689348814741910323) + (Go.bits .and .u64 (IntKind.u64.wrap ((Go.bits .and .u64 (a0 / 2) 6148914691236517205) + (Go.bits .and .u64 a0 6148914691236517205))) 3689348814741910323))) / 16) + (IntKind.u64.wrap ((Go.bits .and .u64 ((IntKind.u64.wrap ((Go.bits .and .u64 (a0 / 2) 6148914691236517205) + (Go.bits .and .u64 a0 6148914691236517205))) / 4) 3689348814741910323) + (Go.bits .and .u64 (IntKind.u64.wrap ((Go.bits .and .u64 (a0 / 2) 6148914691236517205) + (Go.bits .and .u64 a0 6148914691236517205))) 3689348814741910323))))) 1085102592571150095) + ((Go.bits .and .u64 (IntKind.u64.wrap (((IntKind.u64.wrap ((Go.bits .and .u64 ((IntKind.u64.wrap ((Go.bits .and .u64 (a0 / 2) 6148914691236517205) + (Go.bits .and .u64 a0 6148914691236517205))) / 4) 3689348814741910323) + (Go.bits .and .u64 (IntKind.u64.wrap ((Go.bits .and .u64 (a0 / 2) 6148914691236517205) + (Go.bits .and .u64 a0 6148914691236517205))) 3689348814741910323))) / 16) + (IntKind.u64.wrap ((Go.bits .and .u64 ((IntKind.u64.wrap ((Go.bits .and .u64 (a0 / 2) 6148914691236517205) + (Go.bits .and .u64 a0 6148914691236517205))) / 4) 3689348814741910323) + (Go.bits .and .u64 (IntKind.u64.wrap ((Go.bits .and .u64 (a0 / 2) 6148914691236517205) + (Go.bits .and .u64 a0 6148914691236517205))) 3689348814741910323))))) 1085102592571150095) / 256))) + ((IntKind.u64.wrap ((Go.bits .and .u64 (IntKind.u64.wrap (((IntKind.u64.wrap ((Go.bits .and .u64 ((IntKind.u64.wrap ((Go.bits .and .u64 (a0 / 2) 6148914691236517205) + (Go.bits .and .u64 a0 6148914691236517205))) / 4) 3689348814741910323) + (Go.bits .and .u64 (IntKind.u64.wrap ((Go.bits .and .u64 (a0 / 2) 6148914691236517205) + (Go.bits .and .u64 a0 6148914691236517205))) 3689348814741910323))) / 16) + (IntKind.u64.wrap ((Go.bits .and .u64 ((IntKind.u64.wrap ((Go.bits .and .u64 (a0 / 2) 6148914691236517205) + (Go.bits .and .u64 a0 6148914691236517205))) / 4) 3689348814741910323) + (Go.bits .and .u64 (IntKind.u64.wrap ((Go.bits .and .u64 (a0 / 2) 6148914691236517205) + (Go.bits .and .u64 a0 6148914691236517205))) 3689348814741910323))))) 1085102592571150095) + ((Go.bits .and .u64 (IntKind.u64.wrap (((IntKind.u64.wrap ((Go.bits .and .u64 ((IntKind.u64.wrap ((Go.bits .and .u64 (a0 / 2) 6148914691236517205) + (Go.bits .and .u64 a0 6148914691236517205))) / 4) 3689348814741910323) + (Go.bits .and .u64 (IntKind.u64.wrap ((Go.bits .and .u64 (a0 / 2) 6148914691236517205) + (Go.bits .and .u64 a0 6148914691236517205))) 3689348814741910323))) / 16) + (IntKind.u64.wrap ((Go.bits .and .u64 ((IntKind.u64.wrap ((Go.bits .and .u64 (a0 / 2) 6148914691236517205) + (Go.bits .and .u64 a0 6148914691236517205))) / 4) 3689348814741910323) + (Go.bits .and .u64 (IntKind.u64.wrap ((Go.bits .and .u64 (a0 / 2) 6148914691236517205) + (Go.bits .and .u64 a0 6148914691236517205))) 3689348814741910323))))) 1085102592571150095) / 256))) / 65536))) + ((IntKind.u64.wrap ((IntKind.u64.wrap ((Go.bits .and .u64 (IntKind.u64.wrap (((IntKind.u64.wrap ((Go.bits .and .u64 ((IntKind.u64.wrap ((Go.bits .and .u64 (a0 / 2) 6148914691236517205) + (Go.bits .and .u64 a0 6148914691236517205))) / 4) 3689348814741910323) + (Go.bits .and .u64 (IntKind.u64.wrap ((Go.bits .and .u64 (a0 / 2) 6148914691236517205) + (Go.bits .and .u64 a0 6148914691236517205))) 3689348814741910323))) / 16) + (IntKind.u64.wrap ((Go.bits .and .u64 ((IntKind.u64.wrap ((Go.bits .and .u64 (a0 / 2) 6148914691236517205) + (Go.bits .and .u64 a0 6148914691236517205))) / 4) 3689348814741910323) + (Go.bits .and .u64 (IntKind.u64.wrap ((Go.bits .and .u64 (a0 / 2) 6148914691236517205) + (Go.bits .and .u64 a0 6148914691236517205))) 3689348814741910323))))) 1085102592571150095) + ((Go.bits .and .u64 (IntKind.u64.wrap (((IntKind.u64.wrap ((Go.bits .and .u64 ((IntKind.u64.wrap ((Go.bits .and .u64 (a0 / 2) 6148914691236517205) + (Go.bits .and .u64 a0 6148914691236517205))) / 4) 3689348814741910323) + (Go.bits .and .u64 (IntKind.u64.wrap ((Go.bits .and .u64 (a0 / 2) 6148914691236517205) + (Go.bits .and .u64 a0 6148914691236517205))) 3689348814741910323))) / 16) + (IntKind.u64.wrap ((Go.bits .and .u64 ((IntKind.u64.wrap ((Go.bits .and .u64 (a0 / 2) 6148914691236517205) + (Go.bits .and .u64 a0 6148914691236517205))) / 4) 3689348814741910323) + (Go.bits .and .u64 (IntKind.u64.wrap ((Go.bits .and .u64 (a0 / 2) 6148914691236517205) + (Go.bits .and .u64 a0 6148914691236517205))) 3689348814741910323))))) 1085102592571150095) / 256))) + ((IntKind.u64.wrap ((Go.bits .and .u64 (IntKind.u64.wrap (((IntKind.u64.wrap ((Go.bits .and .u64 ((IntKind.u64.wrap ((Go.bits .and .u64 (a0 / 2) 6148914691236517205) + (Go.bits .and .u64 a0 6148914691236517205))) / 4) 3689348814741910323) + (Go.bits .and .u64 (IntKind.u64.wrap ((Go.bits .and .u64 (a0 / 2) 6148914691236517205) + (Go.bits .and .u64 a0 6148914691236517205))) 3689348814741910323))) / 16) + (IntKind.u64.wrap ((Go.bits .and .u64 ((IntKind.u64.wrap ((Go.bits .and .u64 (a0 / 2) 6148914691236517205) + (Go.bits .and .u64 a0 6148914691236517205))) / 4) 3689348814741910323) + (Go.bits .and .u64 (IntKind.u64.wrap ((Go.bits .and .u64 (a0 / 2) 6148914691236517205) + (Go.bits .and .u64 a0 6148914691236517205))) 3689348814741910323))))) 1085102592571150095) + ((Go.bits .and .u64 (IntKind.u64.wrap (((IntKind.u64.wrap ((Go.bits .and .u64 ((IntKind.u64.wrap ((Go.bits .and .u64 (a0 / 2) 6148914691236517205) + (Go.bits .and .u64 a0 6148914691236517205))) / 4) 3689348814741910323) + (Go.bits .and .u64 (IntKind.u64.wrap ((Go.bits .and .u64 (a0 / 2) 6148914691236517205) + (Go.bits .and .u64 a0 6148914691236517205))) 3689348814741910323))) / 16) + (IntKind.u64.wrap ((Go.bits .and .u64 ((IntKind.u64.wrap ((Go.bits .and .u64 (a0 / 2) 6148914691236517205) + (Go.bits .and .u64 a0 6148914691236517205))) / 4) 3689348814741910323) + (Go.bits .and .u64 (IntKind.u64.wrap ((Go.bits .and .u64 (a0 / 2) 6148914691236517205) + (Go.bits .and .u64 a0 6148914691236517205))) 3689348814741910323))))) 1085102592571150095) / 256))) / 65536))) / 4294967296)))) 127)
set_option maxHeartbeats 8000000 in
set_option maxRecDepth 100000 in
theorem bits_OnesCount64.calls (a0 : Int) (r : Int) (w : World) (h : bits_OnesCount64.f a0 = some r) :
    Calls Try.prog 19 #[.int .u64 a0] w fun e w' => e = .returned (.int .i64 r) ∧ Drawn0 w w' := by
  have H : (some (Go.bits .and .i64 (wrap64 (IntKind.u64.wrap ((IntKind.u64.wrap ((IntKind.u64.wrap ((Go.bits .and .u64 (IntKind.u64.wrap (((IntKind.u64.wrap ((Go.bits .and .u64 ((IntKind.u64.wrap ((Go.bits .and .u64 (a0 / 2) 6148914691236517205) + (Go.bits .and .u64 a0 6148914691236517205))) / 4) 3689348814741910323) + (Go.bits .and .u64 (IntKind.u64.wrap ((Go.bits .and .u64 (a0 / 2) 6148914691236517205) + (Go.bits .and .u64 a0 6148914691236517205))) 3689348814741910323))) / 16) + (IntKind.u64.wrap ((Go.bits .and .u64 ((IntKind.u64.wrap ((Go.bits .and .u64 (a0 / 2) 6148914691236517205) + (Go.bits .and .u64 a0 6148914691236517205))) / 4) 3689348814741910323) + (Go.bits .and .u64 (IntKind.u64.wrap ((Go.bits .and .u64 (a0 / 2) 6148914691236517205) + (Go.bits .and .u64 a0 6148914691236517205))) 3689348814741910323))))) 1085102592571150095) + ((Go.bits .and .u64 (IntKind.u64.wrap (((IntKind.u64.wrap ((Go.bits .and .u64 ((IntKind.u64.wrap ((Go.bits .and .u64 (a0 / 2) 6148914691236517205) + (Go.bits .and .u64 a0 6148914691236517205))) / 4) 3689348814741910323) + (Go.bits .and .u64 (IntKind.u64.wrap ((Go.bits .and .u64 (a0 / 2) 6148914691236517205) + (Go.bits .and .u64 a0 6148914691236517205))) 3689348814741910323))) / 16) + (IntKind.u64.wrap ((Go.bits .and .u64 ((IntKind.u64.wrap ((Go.bits .and .u64 (a0 / 2) 6148914691236517205) + (Go.bits .and .u64 a0 6148914691236517205))) / 4) 3689348814741910323) + (Go.bits .and .u64 (IntKind.u64.wrap ((Go.bits .and .u64 (a0 / 2) 6148914691236517205) + (Go.bits .and .u64 a0 6148914691236517205))) 3689348814741910323))))) 1085102592571150095) / 256))) + ((IntKind.u64.wrap ((Go.bits .and .u64 (IntKind.u64.wrap (((IntKind.u64.wrap ((Go.bits .and .u64 ((IntKind.u64.wrap ((Go.bits .and .u64 (a0 / 2) 6148914691236517205) + (Go.bits .and .u64 a0 6148914691236517205))) / 4) 3689348814741910323) + (Go.bits .and .u64 (IntKind.u64.wrap ((Go.bits .and .u64 (a0 / 2) 6148914691236517205) + (Go.bits .and .u64 a0 6148914691236517205))) 3689348814741910323))) / 16) + (IntKind.u64.wrap ((Go.bits .and .u64 ((IntKind.u64.wrap ((Go.bits .and .u64 (a0 / 2) 6148914691236517205) + (Go.bits .and .u64 a0 6148914691236517205))) / 4) 3689348814741910323) + (Go.bits .and .u64 (IntKind.u64.wrap ((Go.bits .and .u64 (a0 / 2) 6148914691236517205) + (Go.bits .and .u64 a0 6148914691236517205))) 3689348814741910323))))) 1085102592571150095) + ((Go.bits .and .u64 (IntKind.u64.wrap (((IntKind.u64.wrap ((Go.bits .and .u64 ((IntKind.u64.wrap ((Go.bits .and .u64 (a0 / 2) 6148914691236517205) + (Go.bits .and .u64 a0 6148914691236517205))) / 4) 3689348814741910323) + (Go.bits .and .u64 (IntKind.u64.wrap ((Go.bits .and .u64 (a0 / 2) 6148914691236517205) + (Go.bits .and .u64 a0 6148914691236517205))) 3689348814741910323))) / 16) + (IntKind.u64.wrap ((Go.bits .and .u64 ((IntKind.u64.wrap ((Go.bits .and .u64 (a0 / 2) 6148914691236517205) + (Go.bits .and .u64 a0 6148914691236517205))) / 4) 3689348814741910323) + (Go.bits .and .u64 (IntKind.u64.wrap ((Go.bits .and .u64 (a0 / 2) 6148914691236517205) + (Go.bits .and .u64 a0 6148914691236517205))) 3689348814741910323))))) 1085102592571150095) / 256))) / 65536))) + ((IntKind.u64.wrap ((IntKind.u64.wrap ((Go.bits .and .u64 (IntKind.u64.wrap (((IntKind.u64.wrap ((Go.bits .and .u64 ((IntKind.u64.wrap ((Go.bits .and .u64 (a0 / 2) 6148914691236517205) + (Go.bits .and .u64 a0 6148914691236517205))) / 4) 3689348814741910323) + (Go.bits .and .u64 (IntKind.u64.wrap ((Go.bits .and .u64 (a0 / 2) 6148914691236517205) + (Go.bits .and .u64 a0 6148914691236517205))) 3689348814741910323))) / 16) + (IntKind.u64.wrap ((Go.bits .and .u64 ((IntKind.u64.wrap ((Go.bits .and .u64 (a0 / 2) 6148914691236517205) + (Go.bits .and .u64 a0 6148914691236517205))) / 4) 3689348814741910323) + (Go.bits .and .u64 (IntKind.u64.wrap ((Go.bits .and .u64 (a0 / 2) 6148914691236517205) + (Go.bits .and .u64 a0 6148914691236517205))) 3689348814741910323))))) 1085102592571150095) + ((Go.bits .and .u64 (IntKind.u64.wrap (((IntKind.u64.wrap ((Go.bits .and .u64 ((IntKind.u64.wrap ((Go.bits .and .u64 (a0 / 2) 6148914691236517205) + (Go.bits .and .u64 a0 6148914691236517205))) / 4) 3689348814741910323) + (Go.bits .and .u64 (IntKind.u64.wrap ((Go.bits .and .u64 (a0 / 2) 6148914691236517205) + (Go.bits .and .u64 a0 6148914691236517205))) 3689348814741910323))) / 16) + (IntKind.u64.wrap ((Go.bits .and .u64 ((IntKind.u64.wrap ((Go.bits .and .u64 (a0 / 2) 6148914691236517205) + (Go.bits .and .u64 a0 6148914691236517205))) / 4) 3689348814741910323) + (Go.bits .and .u64 (IntKind.u64.wrap ((Go.bits .and .u64 (a0 / 2) 6148914691236517205) + (Go.bits .and .u64 a0 6148914691236517205))) 3689348814741910323))))) 1085102592571150095) / 256))) + ((IntKind.u64.wrap ((Go.bits .and .u64 (IntKind.u64.wrap (((IntKind.u64.wrap ((Go.bits .and .u64 ((IntKind.u64.wrap ((Go.bits .and .u64 (a0 / 2) 6148914691236517205) + (Go.bits .and .u64 a0 6148914691236517205))) / 4) 3689348814741910323) + (Go.bits .and .u64 (IntKind.u64.wrap ((Go.bits .and .u64 (a0 / 2) 6148914691236517205) + (Go.bits .and .u64 a0 6148914691236517205))) 3689348814741910323))) / 16) + (IntKind.u64.wrap ((Go.bits .and .u64 ((IntKind.u64.wrap ((Go.bits .and .u64 (a0 / 2) 6148914691236517205) + (Go.bits .and .u64 a0 6148914691236517205))) / 4) 3689348814741910323) + (Go.bits .and .u64 (IntKind.u64.wrap ((Go.bits .and .u64 (a0 / 2) 6148914691236517205) + (Go.bits .and .u64 a0 6148914691236517205))) 3689348814741910323))))) 1085102592571150095) + ((Go.bits .and .u64 (IntKind.u64.wrap (((IntKind.u64.wrap ((Go.bits .and .u64 ((IntKind.u64.wrap ((Go.bits .and .u64 (a0 / 2) 6148914691236517205) + (Go.bits .and .u64 a0 6148914691236517205))) / 4) 3689348814741910323) + (Go.bits .and .u64 (IntKind.u64.wrap ((Go.bits .and .u64 (a0 / 2) 6148914691236517205) + (Go.bits .and .u64 a0 6148914691236517205))) 3689348814741910323))) / 16) + (IntKind.u64.wrap ((Go.bits .and .u64 ((IntKind.u64.wrap ((Go.bits .and .u64 (a0 / 2) 6148914691236517205) + (Go.bits .and .u64 a0 6148914691236517205))) / 4) 3689348814741910323) + (Go.bits .and .u64 (IntKind.u64.wrap ((Go.bits .and .u64 (a0 / 2) 6148914691236517205) + (Go.bits .and .u64 a0 6148914691236517205))) 3689348814741910323))))) 1085102592571150095) / 256))) / 65536))) / 4294967296)))) 127)) = some r := h
  clear h
  obtain rfl := Option.some.inj H
  go_enter Try.func19, Try.ntmps19
  go_wp2
  go_ret
  exact ⟨by first | rfl | (simp; done) | (simp [*]; done), by repeat (first | exact Drawn0.refl _ | apply Drawn0.step)⟩

/-! ### proof_decompInclProof: function 16 -/
def proof_decompInclProof.f (k : Nat) (a0 : Int) (a1 : Int) : Option (Int × Int) := (proof_innerProofSize.f k a0 a1).bind fun t144 => (if 0 ≤ (IntKind.u64.wrap (t144)) then ((bits_OnesCount64.f (shr .u64 a0 (IntKind.u64.wrap (t144)))).bind fun t145 => (some (t144, t145))) else (none))
theorem proof_decompInclProof.mono : ∀ a0 a1 k, LeO (proof_decompInclProof.f k a0 a1) (proof_decompInclProof.f (k + 1) a0 a1) := by
  intro a0 a1 k
  unfold proof_decompInclProof.f
  repeat' first
      | (with_reducible exact proof_innerProofSize.mono _ _ _)
      | (with_reducible exact LeO.refl _)
      | (with_reducible exact LeO.none _)
      | (with_reducible refine LeO.ite ?_ ?_)
      | (with_reducible refine LeO.bind ?_ (fun _ => ?_))
      | exact proof_innerProofSize.mono _ _ _
      | exact LeO.none _
      | refine LeO.ite ?_ ?_
      | refine LeO.bind ?_ (fun _ => ?_)
set_option maxHeartbeats 8000000 in
set_option maxRecDepth 100000 in
theorem proof_decompInclProof.calls (k : Nat) (a0 : Int) (a1 : Int) (r1 : Int) (r2 : Int) (w : World) (h : proof_decompInclProof.f k a0 a1 = some (r1, r2)) :
    Calls Try.prog 16 #[.int .u64 a0, .int .u64 a1] w fun e w' => e = .returned (.tuple #[.int .i64 r1, .int .i64 r2]) ∧ Drawn0 w w' := by
  have H : ((proof_innerProofSize.f k a0 a1).bind fun t144 => (if 0 ≤ (IntKind.u64.wrap (t144)) then ((bits_OnesCount64.f (shr .u64 a0 (IntKind.u64.wrap (t144)))).bind fun t145 => (some (t144, t145))) else (none))) = some (r1, r2) := h
  clear h
  replace H := Option.bind_eq_some_iff.mp H
  obtain ⟨t144, A30, H⟩ := H
  replace H : (if 0 ≤ (IntKind.u64.wrap (t144)) then ((bits_OnesCount64.f (shr .u64 a0 (IntKind.u64.wrap (t144)))).bind fun t145 => (some (t144, t145))) else (none)) = some (r1, r2) := H
  have A3 := Aside0.mk A30
  clear A30
  obtain ⟨ji4, hji4⟩ : ∃ j_ : Int, (IntKind.u64.wrap (t144)) = j_ := ⟨_, rfl⟩
  replace H : (if 0 ≤ (ji4) then ((bits_OnesCount64.f (shr .u64 a0 (ji4))).bind fun t145 => (some (t144, t145))) else (none)) = some (r1, r2) := by first | (rw [hji4] at H; exact H) | (simp only [hji4] at H ⊢; exact H)
  (try rw [hji4] at A3)
  by_cases c5 : 0 ≤ (ji4)
  · rw [if_pos c5] at H
    have c5b0 := eq_true c5
    have c5b1 : decide (0 ≤ (ji4)) = true := decide_eq_true c5
    clear c5
    obtain ⟨ji6, hji6⟩ : ∃ j_ : Int, (shr .u64 a0 (ji4)) = j_ := ⟨_, rfl⟩
    replace H : ((bits_OnesCount64.f (ji6)).bind fun t145 => (some (t144, t145))) = some (r1, r2) := by first | (rw [hji6] at H; exact H) | (simp only [hji6] at H ⊢; exact H)
    (try rw [hji6] at A3)
    have hji6_ : (a0 / 2 ^ min (ji4).toNat 64) = ji6 := hji6
    have hji6z : (ji4) ≤ 64 → (a0 / 2 ^ (ji4).toNat) = ji6 := shr_small hji6
    replace H := Option.bind_eq_some_iff.mp H
    obtain ⟨t145, A70, H⟩ := H
    replace H : (some (t144, t145)) = some (r1, r2) := H
    have A7 := Aside0.mk A70
    clear A70
    simp only [Option.some.injEq, Prod.mk.injEq] at H
    obtain ⟨rfl, rfl⟩ := H
    go_enter Try.func16, Try.ntmps16
    go_wp2_with (first | ((with_reducible refine gate_callee (f := 18) rfl ?_); refine goesL_ (some 10) rfl rfl Try.func18 (by kernel_rfl) rfl #[.int .u64 a0, .int .u64 a1] rfl (by (try simp only [List.map_toArray, List.map_cons, List.map_nil]); first | done | rfl | (simp only [List.length_drop, List.length_take]; rfl)) ?_; (with_reducible refine (proof_innerProofSize.calls k a0 a1 t144 _ A3.out).mono ?_); rintro e w' ⟨rfl, ⟨nd, rfl⟩⟩; refine ⟨_, rfl, ?_⟩) | ((with_reducible refine gate_callee (f := 19) rfl ?_); refine goesL_ (some 15) rfl rfl Try.func19 (by kernel_rfl) rfl #[.int .u64 ji6] rfl (by (try simp only [List.map_toArray, List.map_cons, List.map_nil]); first | done | (simp only [hji6]; rfl) | rfl | (simp only [List.length_drop, List.length_take]; rfl)) ?_; (with_reducible refine (bits_OnesCount64.calls ji6 t145 _ A7.out).mono ?_); rintro e w' ⟨rfl, ⟨nd, rfl⟩⟩; refine ⟨_, rfl, ?_⟩))
    go_ret2
    exact ⟨by first | rfl | (simp; done) | (simp only [← hji4, ← hji6] <;> (first | rfl | simp)) | (simp [*]; done), by repeat (first | exact Drawn0.refl _ | apply Drawn0.step)⟩
  · rw [if_neg c5] at H
    exact absurd H (by simp)

/-! ### proof_DoorSizes: function 13 -/
def proof_DoorSizes.f (k : Nat) (a0 : Int) (a1 : Int) : Option (Int × Int) := (proof_decompInclProof.f k a0 a1).bind fun bt146 => (some (bt146.1, bt146.2))
theorem proof_DoorSizes.mono : ∀ a0 a1 k, LeO (proof_DoorSizes.f k a0 a1) (proof_DoorSizes.f (k + 1) a0 a1) := by
  intro a0 a1 k
  unfold proof_DoorSizes.f
  repeat' first
      | (with_reducible exact proof_decompInclProof.mono _ _ _)
      | (with_reducible exact LeO.refl _)
      | (with_reducible exact LeO.none _)
      | (with_reducible refine LeO.ite ?_ ?_)
      | (with_reducible refine LeO.bind ?_ (fun _ => ?_))
      | exact proof_decompInclProof.mono _ _ _
      | exact LeO.none _
      | refine LeO.ite ?_ ?_
      | refine LeO.bind ?_ (fun _ => ?_)
set_option maxHeartbeats 8000000 in
set_option maxRecDepth 100000 in
theorem proof_DoorSizes.calls (k : Nat) (a0 : Int) (a1 : Int) (r1 : Int) (r2 : Int) (w : World) (h : proof_DoorSizes.f k a0 a1 = some (r1, r2)) :
    Calls Try.prog 13 #[.int .u64 a0, .int .u64 a1] w fun e w' => e = .returned (.tuple #[.int .i64 r1, .int .i64 r2]) ∧ Drawn0 w w' := by
  have H : ((proof_decompInclProof.f k a0 a1).bind fun bt146 => (some (bt146.1, bt146.2))) = some (r1, r2) := h
  clear h
  replace H := Option.bind_eq_some_iff.mp H
  obtain ⟨⟨t146, t147⟩, A30, H⟩ := H
  replace H : (some (t146, t147)) = some (r1, r2) := H
  have A3 := Aside0.mk A30
  clear A30
  simp only [Option.some.injEq, Prod.mk.injEq] at H
  obtain ⟨rfl, rfl⟩ := H
  go_enter Try.func13, Try.ntmps13
  go_wp2_with (first | ((with_reducible refine gate_callee (f := 16) rfl ?_); refine goesL_ (some 8) rfl rfl Try.func16 (by kernel_rfl) rfl #[.int .u64 a0, .int .u64 a1] rfl (by (try simp only [List.map_toArray, List.map_cons, List.map_nil]); first | done | rfl | (simp only [List.length_drop, List.length_take]; rfl)) ?_; (with_reducible refine (proof_decompInclProof.calls k a0 a1 t146 t147 _ A3.out).mono ?_); rintro e w' ⟨rfl, ⟨nd, rfl⟩⟩; refine ⟨_, rfl, ?_⟩))
  go_ret2
  exact ⟨by first | rfl | (simp; done) | (simp [*]; done), by repeat (first | exact Drawn0.refl _ | apply Drawn0.step)⟩

/-! ### impl_ProofSizes: function 7 -/
def impl_ProofSizes.f (k : Nat) (a0 : Int) (a1 : Int) : Option (Int × Int) := if a0 ≥ a1 then (some (0, 0)) else ((proof_DoorSizes.f k a0 a1).bind fun bt148 => (some (bt148.1, bt148.2)))
theorem impl_ProofSizes.mono : ∀ a0 a1 k, LeO (impl_ProofSizes.f k a0 a1) (impl_ProofSizes.f (k + 1) a0 a1) := by
  intro a0 a1 k
  unfold impl_ProofSizes.f
  repeat' first
      | (with_reducible exact proof_DoorSizes.mono _ _ _)
      | (with_reducible exact LeO.refl _)
      | (with_reducible exact LeO.none _)
      | (with_reducible refine LeO.ite ?_ ?_)
      | (with_reducible refine LeO.bind ?_ (fun _ => ?_))
      | exact proof_DoorSizes.mono _ _ _
      | exact LeO.none _
      | refine LeO.ite ?_ ?_
      | refine LeO.bind ?_ (fun _ => ?_)
set_option maxHeartbeats 8000000 in
set_option maxRecDepth 100000 in
theorem impl_ProofSizes.calls (k : Nat) (a0 : Int) (a1 : Int) (r1 : Int) (r2 : Int) (w : World) (h : impl_ProofSizes.f k a0 a1 = some (r1, r2)) :
    Calls Try.prog 7 #[.int .u64 a0, .int .u64 a1] w fun e w' => e = .returned (.tuple #[.int .i64 r1, .int .i64 r2]) ∧ Drawn0 w w' := by
  have H : (if a0 ≥ a1 then (some (0, 0)) else ((proof_DoorSizes.f k a0 a1).bind fun bt148 => (some (bt148.1, bt148.2)))) = some (r1, r2) := h
  clear h
  by_cases c3 : a0 ≥ a1
  · rw [if_pos c3] at H
    have c3b0 : decide (a1 ≤ a0) = true := decide_eq_true c3
    clear c3
    simp only [Option.some.injEq, Prod.mk.injEq] at H
    obtain ⟨rfl, rfl⟩ := H
    go_enter Try.func7, Try.ntmps7
    go_wp2
    go_ret2
    exact ⟨by first | rfl | (simp; done) | (simp [*]; done), by repeat (first | exact Drawn0.refl _ | apply Drawn0.step)⟩
  · rw [if_neg c3] at H
    have c3b0 : decide (a1 ≤ a0) = false := decide_eq_false c3
    clear c3
    replace H := Option.bind_eq_some_iff.mp H
    obtain ⟨⟨t148, t149⟩, A40, H⟩ := H
    replace H : (some (t148, t149)) = some (r1, r2) := H
    have A4 := Aside0.mk A40
    clear A40
    simp only [Option.some.injEq, Prod.mk.injEq] at H
    obtain ⟨rfl, rfl⟩ := H
    go_enter Try.func7, Try.ntmps7
    go_wp2_with (first | ((with_reducible refine gate_callee (f := 13) rfl ?_); refine goesL_ (some 11) rfl rfl Try.func13 (by kernel_rfl) rfl #[.int .u64 a0, .int .u64 a1] rfl (by (try simp only [List.map_toArray, List.map_cons, List.map_nil]); first | done | rfl | (simp only [List.length_drop, List.length_take]; rfl)) ?_; (with_reducible refine (proof_DoorSizes.calls k a0 a1 t148 t149 _ A4.out).mono ?_); rintro e w' ⟨rfl, ⟨nd, rfl⟩⟩; refine ⟨_, rfl, ?_⟩))
    go_ret2
    exact ⟨by first | rfl | (simp; done) | (simp [*]; done), by repeat (first | exact Drawn0.refl _ | apply Drawn0.step)⟩

/-! ### spec_split: function 17 -/
def spec_split.l0 : Nat → Int → Int → Option (Int)
  | 0, _, _ => none
  | k + 1, x0, x3 => if x3 < (IntKind.u64.wrap (x0 - x3)) then (spec_split.l0 k x0 (IntKind.u64.wrap (x3 * 2))) else (some x3)
def spec_split.f (k : Nat) (a0 : Int) : Option (Int) := spec_split.l0 k a0 1
theorem spec_split.mono_l : ∀ k, (∀ y0 y1, LeO (spec_split.l0 k y0 y1) (spec_split.l0 (k + 1) y0 y1))
  | 0 => fun _ _ r h => by simp [spec_split.l0] at h
  | k + 1 => by
    have ih0 := spec_split.mono_l k
    · intro y0 y1
      unfold spec_split.l0
      repeat' first
      | (with_reducible exact ih0 _ _)
      | (with_reducible exact LeO.refl _)
      | (with_reducible exact LeO.none _)
      | (with_reducible refine LeO.ite ?_ ?_)
      | (with_reducible refine LeO.bind ?_ (fun _ => ?_))
      | exact ih0 _ _
      | exact LeO.none _
      | refine LeO.ite ?_ ?_
      | refine LeO.bind ?_ (fun _ => ?_)
theorem spec_split.mono : ∀ a0 k, LeO (spec_split.f k a0) (spec_split.f (k + 1) a0) := by
  intro a0 k
  have ih0 := spec_split.mono_l k
  unfold spec_split.f
  repeat' first
      | (with_reducible exact ih0 _ _)
      | (with_reducible exact LeO.refl _)
      | (with_reducible exact LeO.none _)
      | (with_reducible refine LeO.ite ?_ ?_)
      | (with_reducible refine LeO.bind ?_ (fun _ => ?_))
      | exact ih0 _ _
      | exact LeO.none _
      | refine LeO.ite ?_ ?_
      | refine LeO.bind ?_ (fun _ => ?_)
set_option maxHeartbeats 8000000 in
set_option maxRecDepth 100000 in
theorem spec_split.calls (k : Nat) (a0 : Int) (r : Int) (w : World) (h : spec_split.f k a0 = some r) :
    Calls Try.prog 17 #[.int .u64 a0] w fun e w' => e = .returned (.int .u64 r) ∧ Drawn0 w w' := by
  have H : (spec_split.l0 k a0 1) = some r := h
  clear h
  have H' := Aside0.mk H
  clear H
  go_enter Try.func17, Try.ntmps17
  go_wp2
  try simp only [Act.put, List.setIfInBounds_toArray, List.set_cons_zero, List.set_cons_succ]
  go_loopg [3] k (fun kq v3 w' => ∃ (x3_1 : Int), v3 = .int .u64 x3_1 ∧ Aside0 (spec_split.l0 kq a0 x3_1 = some r) ∧ Aside0 (kq ≤ k) ∧ Drawn0 w w')
  case atStart => exact ⟨(1), (by first | rfl | (simp; done) | (simp [*]; done)), H', ⟨Nat.le_refl _⟩, by repeat (first | exact Drawn0.refl _ | apply Drawn0.step)⟩
  case round =>
    clear H'
    try clear c1
    obtain ⟨x3_1, rfl, HA, HK1, ⟨m1, rfl⟩⟩ := hrel
    cases gk with
    | zero => exact absurd HA.out (by simp [spec_split.l0])
    | succ k1 =>
      have H := HA.out
      clear HA
      simp only [spec_split.l0] at H
      by_cases c2 : x3_1 < (IntKind.u64.wrap (a0 - x3_1))
      · rw [if_pos c2] at H
        have c2b0 : decide (x3_1 < (IntKind.u64.wrap (a0 - x3_1))) = true := decide_eq_true c2
        clear c2
        have H' := Aside0.mk H
        clear H
        go_wp2
        go_roundg k1
        case measure => have := HK1.out; omega
        case rel => exact ⟨(IntKind.u64.wrap (x3_1 * 2)), (by first | rfl | (simp; done) | (simp [*]; done)), H', ⟨by have := HK1.out; omega⟩, by repeat (first | exact Drawn0.refl _ | apply Drawn0.step)⟩
      · rw [if_neg c2] at H
        have c2b0 : decide (x3_1 < (IntKind.u64.wrap (a0 - x3_1))) = false := decide_eq_false c2
        clear c2
        obtain rfl := Option.some.inj H
        go_wp2
        go_ret
        exact ⟨by first | rfl | (simp; done) | (simp [*]; done), by repeat (first | exact Drawn0.refl _ | apply Drawn0.step)⟩

end Go.Proofs.Ythfgegaakfgjkaa.PAll
