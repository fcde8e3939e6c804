-- Written by a program of this session (wip/tools)
import Derived.Test.YtbfhmcgiamnliaaPAllx0
import Derived.Test.YtbfhmcgiamnliaaPAllx4
namespace Go.Proofs.Ytbfhmcgiamnliaa.PAll
open Go.RowKit Go.Proofs.YtbfhmcgiamnliaaW.PrintWords Go.Proofs.YtbfhmcgiamnliaaW.PrintLast Go.Proofs.YtbfhmcgiamnliaaW.PrintMore
attribute [local go_sem] max2_int min2_int max_two min_two max_three min_three max_four min_four   -- for this text's walks alone
set_option linter.unusedVariables false
set_option linter.unusedSimpArgs false

/-! ### bits_Len64: function 43 -/
def bits_Len64.j0 : Nat → Int → Int → Option (Int)
  | 0, _, _ => none
  | k + 1, x0, x2 => if x0 ≥ 65536 then (if (x0 / 65536) ≥ 256 then (if 0 ≤ (((x0 / 65536) / 256) % 256) then (if (((x0 / 65536) / 256) % 256) < 256 then (some (wrap64 ((wrap64 ((wrap64 (x2 + 16)) + 8)) + (wrap64 (bt (⟨#[0, 1, 2, 2, 3, 3, 3, 3, 4, 4, 4, 4, 4, 4, 4, 4, 5, 5, 5, 5, 5, 5, 5, 5, 5, 5, 5, 5, 5, 5, 5, 5, 6, 6, 6, 6, 6, 6, 6, 6, 6, 6, 6, 6, 6, 6, 6, 6, 6, 6, 6, 6, 6, 6, 6, 6, 6, 6, 6, 6, 6, 6, 6, 6, 7, 7, 7, 7, 7, 7, 7, 7, 7, 7, 7, 7, 7, 7, 7, 7, 7, 7, 7, 7, 7, 7, 7, 7, 7, 7, 7, 7, 7, 7, 7, 7, 7, 7, 7, 7, 7, 7, 7, 7, 7, 7, 7, 7, 7, 7, 7, 7, 7, 7, 7, 7, 7, 7, 7, 7, 7, 7, 7, 7, 7, 7, 7, 7, 8, 8, 8, 8, 8, 8, 8, 8, 8, 8, 8, 8, 8, 8, 8, 8, 8, 8, 8, 8, 8, 8, 8, 8, 8, 8, 8, 8, 8, 8, 8, 8, 8, 8, 8, 8, 8, 8, 8, 8, 8, 8, 8, 8, 8, 8, 8, 8, 8, 8, 8, 8, 8, 8, 8, 8, 8, 8, 8, 8, 8, 8, 8, 8, 8, 8, 8, 8, 8, 8, 8, 8, 8, 8, 8, 8, 8, 8, 8, 8, 8, 8, 8, 8, 8, 8, 8, 8, 8, 8, 8, 8, 8, 8, 8, 8, 8, 8, 8, 8, 8, 8, 8, 8, 8, 8, 8, 8, 8, 8, 8, 8, 8, 8, 8, 8, 8, 8, 8, 8, 8, 8, 8, 8, 8, 8, 8, 8]⟩ : ByteArray) (((x0 / 65536) / 256) % 256)))))) else (none)) else (none)) else (if 0 ≤ ((x0 / 65536) % 256) then (if ((x0 / 65536) % 256) < 256 then (some (wrap64 ((wrap64 (x2 + 16)) + (wrap64 (bt (⟨#[0, 1, 2, 2, 3, 3, 3, 3, 4, 4, 4, 4, 4, 4, 4, 4, 5, 5, 5, 5, 5, 5, 5, 5, 5, 5, 5, 5, 5, 5, 5, 5, 6, 6, 6, 6, 6, 6, 6, 6, 6, 6, 6, 6, 6, 6, 6, 6, 6, 6, 6, 6, 6, 6, 6, 6, 6, 6, 6, 6, 6, 6, 6, 6, 7, 7, 7, 7, 7, 7, 7, 7, 7, 7, 7, 7, 7, 7, 7, 7, 7, 7, 7, 7, 7, 7, 7, 7, 7, 7, 7, 7, 7, 7, 7, 7, 7, 7, 7, 7, 7, 7, 7, 7, 7, 7, 7, 7, 7, 7, 7, 7, 7, 7, 7, 7, 7, 7, 7, 7, 7, 7, 7, 7, 7, 7, 7, 7, 8, 8, 8, 8, 8, 8, 8, 8, 8, 8, 8, 8, 8, 8, 8, 8, 8, 8, 8, 8, 8, 8, 8, 8, 8, 8, 8, 8, 8, 8, 8, 8, 8, 8, 8, 8, 8, 8, 8, 8, 8, 8, 8, 8, 8, 8, 8, 8, 8, 8, 8, 8, 8, 8, 8, 8, 8, 8, 8, 8, 8, 8, 8, 8, 8, 8, 8, 8, 8, 8, 8, 8, 8, 8, 8, 8, 8, 8, 8, 8, 8, 8, 8, 8, 8, 8, 8, 8, 8, 8, 8, 8, 8, 8, 8, 8, 8, 8, 8, 8, 8, 8, 8, 8, 8, 8, 8, 8, 8, 8, 8, 8, 8, 8, 8, 8, 8, 8, 8, 8, 8, 8, 8, 8, 8, 8, 8, 8]⟩ : ByteArray) ((x0 / 65536) % 256)))))) else (none)) else (none))) else (if x0 ≥ 256 then (if 0 ≤ ((x0 / 256) % 256) then (if ((x0 / 256) % 256) < 256 then (some (wrap64 ((wrap64 (x2 + 8)) + (wrap64 (bt (⟨#[0, 1, 2, 2, 3, 3, 3, 3, 4, 4, 4, 4, 4, 4, 4, 4, 5, 5, 5, 5, 5, 5, 5, 5, 5, 5, 5, 5, 5, 5, 5, 5, 6, 6, 6, 6, 6, 6, 6, 6, 6, 6, 6, 6, 6, 6, 6, 6, 6, 6, 6, 6, 6, 6, 6, 6, 6, 6, 6, 6, 6, 6, 6, 6, 7, 7, 7, 7, 7, 7, 7, 7, 7, 7, 7, 7, 7, 7, 7, 7, 7, 7, 7, 7, 7, 7, 7, 7, 7, 7, 7, 7, 7, 7, 7, 7, 7, 7, 7, 7, 7, 7, 7, 7, 7, 7, 7, 7, 7, 7, 7, 7, 7, 7, 7, 7, 7, 7, 7, 7, 7, 7, 7, 7, 7, 7, 7, 7, 8, 8, 8, 8, 8, 8, 8, 8, 8, 8, 8, 8, 8, 8, 8, 8, 8, 8, 8, 8, 8, 8, 8, 8, 8, 8, 8, 8, 8, 8, 8, 8, 8, 8, 8, 8, 8, 8, 8, 8, 8, 8, 8, 8, 8, 8, 8, 8, 8, 8, 8, 8, 8, 8, 8, 8, 8, 8, 8, 8, 8, 8, 8, 8, 8, 8, 8, 8, 8, 8, 8, 8, 8, 8, 8, 8, 8, 8, 8, 8, 8, 8, 8, 8, 8, 8, 8, 8, 8, 8, 8, 8, 8, 8, 8, 8, 8, 8, 8, 8, 8, 8, 8, 8, 8, 8, 8, 8, 8, 8, 8, 8, 8, 8, 8, 8, 8, 8, 8, 8, 8, 8, 8, 8, 8, 8, 8, 8]⟩ : ByteArray) ((x0 / 256) % 256)))))) else (none)) else (none)) else (if 0 ≤ ((x0) % 256) then (if ((x0) % 256) < 256 then (some (wrap64 (x2 + (wrap64 (bt (⟨#[0, 1, 2, 2, 3, 3, 3, 3, 4, 4, 4, 4, 4, 4, 4, 4, 5, 5, 5, 5, 5, 5, 5, 5, 5, 5, 5, 5, 5, 5, 5, 5, 6, 6, 6, 6, 6, 6, 6, 6, 6, 6, 6, 6, 6, 6, 6, 6, 6, 6, 6, 6, 6, 6, 6, 6, 6, 6, 6, 6, 6, 6, 6, 6, 7, 7, 7, 7, 7, 7, 7, 7, 7, 7, 7, 7, 7, 7, 7, 7, 7, 7, 7, 7, 7, 7, 7, 7, 7, 7, 7, 7, 7, 7, 7, 7, 7, 7, 7, 7, 7, 7, 7, 7, 7, 7, 7, 7, 7, 7, 7, 7, 7, 7, 7, 7, 7, 7, 7, 7, 7, 7, 7, 7, 7, 7, 7, 7, 8, 8, 8, 8, 8, 8, 8, 8, 8, 8, 8, 8, 8, 8, 8, 8, 8, 8, 8, 8, 8, 8, 8, 8, 8, 8, 8, 8, 8, 8, 8, 8, 8, 8, 8, 8, 8, 8, 8, 8, 8, 8, 8, 8, 8, 8, 8, 8, 8, 8, 8, 8, 8, 8, 8, 8, 8, 8, 8, 8, 8, 8, 8, 8, 8, 8, 8, 8, 8, 8, 8, 8, 8, 8, 8, 8, 8, 8, 8, 8, 8, 8, 8, 8, 8, 8, 8, 8, 8, 8, 8, 8, 8, 8, 8, 8, 8, 8, 8, 8, 8, 8, 8, 8, 8, 8, 8, 8, 8, 8, 8, 8, 8, 8, 8, 8, 8, 8, 8, 8, 8, 8, 8, 8, 8, 8, 8, 8]⟩ : ByteArray) ((x0) % 256)))))) else (none)) else (none)))
def bits_Len64.f (k : Nat) (a0 : Int) : Option (Int) := if a0 ≥ 4294967296 then (bits_Len64.j0 k (a0 / 4294967296) 32) else (bits_Len64.j0 k a0 0)
theorem bits_Len64.mono_l : ∀ k, (∀ y0 y1, LeO (bits_Len64.j0 k y0 y1) (bits_Len64.j0 (k + 1) y0 y1))
  | 0 => fun _ _ r h => by simp [bits_Len64.j0] at h
  | k + 1 => by
    have ih0 := bits_Len64.mono_l k
    · intro y0 y1
      unfold bits_Len64.j0
      repeat' first
      | (with_reducible exact ih0 _ _)
      | (with_reducible exact LeO.refl _)
      | (with_reducible exact LeO.none _)
      | (with_reducible refine LeO.ite ?_ ?_)
      | (with_reducible refine LeO.bind ?_ (fun _ => ?_))
      | exact ih0 _ _
      | exact LeO.none _
      | refine LeO.ite ?_ ?_
      | refine LeO.bind ?_ (fun _ => ?_)
theorem bits_Len64.mono : ∀ a0 k, LeO (bits_Len64.f k a0) (bits_Len64.f (k + 1) a0) := by
  intro a0 k
  have ih0 := bits_Len64.mono_l k
  unfold bits_Len64.f
  repeat' first
      | (with_reducible exact ih0 _ _)
      | (with_reducible exact LeO.refl _)
      | (with_reducible exact LeO.none _)
      | (with_reducible refine LeO.ite ?_ ?_)
      | (with_reducible refine LeO.bind ?_ (fun _ => ?_))
      | exact ih0 _ _
      | exact LeO.none _
      | refine LeO.ite ?_ ?_
      | refine LeO.bind ?_ (fun _ => ?_)
set_option maxHeartbeats 8000000 in
set_option maxRecDepth 100000 in
theorem bits_Len64.calls (k : Nat) (a0 : Int) (r : Int) (w : World) (h : bits_Len64.f k a0 = some r) :
    Calls Try.prog 43 #[.int .u64 a0] w fun e w' => e = .returned (.int .i64 r) ∧ Drawn0 w w' := by
  have H : (if a0 ≥ 4294967296 then (bits_Len64.j0 k (a0 / 4294967296) 32) else (bits_Len64.j0 k a0 0)) = some r := h
  clear h
  have HC2 := Aside0.mk H
  clear H
  go_enter Try.func43, Try.ntmps43
  go_upto_if 4 with (fail)
  go_cut [0, 2] (fun v0 v2 wc => ∃ (kq : Nat) (x0_1 : Int) (x2_1 : Int), v0 = .int .u64 x0_1 ∧ v2 = .int .i64 x2_1 ∧ Aside0 (bits_Len64.j0 kq x0_1 x2_1 = some r) ∧ Aside0 (kq ≤ k) ∧ Drawn0 w wc)
  case first =>
    have H := HC2.out
    clear HC2
    by_cases c3 : a0 ≥ 4294967296
    · rw [if_pos c3] at H
      have c3b0 : decide (4294967296 ≤ a0) = true := decide_eq_true c3
      clear c3
      (first | rw [c3b0] | (simp only [i64_w, i32_w]; rw [c3b0]) | skip)
      have H' := Aside0.mk H
      clear H
      go_wp2
      go_meet
      case rel => exact ⟨_, (a0 / 4294967296), (32), (by first | rfl | (simp; done) | (simp [*]; done)), (by first | rfl | (simp; done) | (simp [*]; done)), H', ⟨by first | omega | exact Nat.le_refl _⟩, by repeat (first | exact Drawn0.refl _ | apply Drawn0.step)⟩
    · rw [if_neg c3] at H
      have c3b0 : decide (4294967296 ≤ a0) = false := decide_eq_false c3
      clear c3
      (first | rw [c3b0] | (simp only [i64_w, i32_w]; rw [c3b0]) | skip)
      have H' := Aside0.mk H
      clear H
      go_wp2
      go_meet
      case rel => exact ⟨_, (a0), (0), (by first | rfl | (simp; done) | (simp [*]; done)), (by first | rfl | (simp; done) | (simp [*]; done)), H', ⟨by first | omega | exact Nat.le_refl _⟩, by repeat (first | exact Drawn0.refl _ | apply Drawn0.step)⟩
  case rest =>
    clear HC2
    try clear p2
    try clear c3
    try clear c3b0
    obtain ⟨kq, x0_1, x2_1, rfl, rfl, HA, HJ1, ⟨mc1, rfl⟩⟩ := hcut
    cases kq with
    | zero => exact absurd HA.out (by simp [bits_Len64.j0])
    | succ kj1 =>
      have H := HA.out
      clear HA
      simp only [bits_Len64.j0] at H
      by_cases c4 : x0_1 ≥ 65536
      · rw [if_pos c4] at H
        have c4b0 : decide (65536 ≤ x0_1) = true := decide_eq_true c4
        clear c4
        by_cases c5 : (x0_1 / 65536) ≥ 256
        · rw [if_pos c5] at H
          have c5b0 : decide (256 ≤ (x0_1 / 65536)) = true := decide_eq_true c5
          clear c5
          obtain ⟨ji6, hji6⟩ : ∃ j_ : Int, (((x0_1 / 65536) / 256) % 256) = j_ := ⟨_, rfl⟩
          replace H : (if 0 ≤ (ji6) then (if (ji6) < 256 then (some (wrap64 ((wrap64 ((wrap64 (x2_1 + 16)) + 8)) + (wrap64 (bt (⟨#[0, 1, 2, 2, 3, 3, 3, 3, 4, 4, 4, 4, 4, 4, 4, 4, 5, 5, 5, 5, 5, 5, 5, 5, 5, 5, 5, 5, 5, 5, 5, 5, 6, 6, 6, 6, 6, 6, 6, 6, 6, 6, 6, 6, 6, 6, 6, 6, 6, 6, 6, 6, 6, 6, 6, 6, 6, 6, 6, 6, 6, 6, 6, 6, 7, 7, 7, 7, 7, 7, 7, 7, 7, 7, 7, 7, 7, 7, 7, 7, 7, 7, 7, 7, 7, 7, 7, 7, 7, 7, 7, 7, 7, 7, 7, 7, 7, 7, 7, 7, 7, 7, 7, 7, 7, 7, 7, 7, 7, 7, 7, 7, 7, 7, 7, 7, 7, 7, 7, 7, 7, 7, 7, 7, 7, 7, 7, 7, 8, 8, 8, 8, 8, 8, 8, 8, 8, 8, 8, 8, 8, 8, 8, 8, 8, 8, 8, 8, 8, 8, 8, 8, 8, 8, 8, 8, 8, 8, 8, 8, 8, 8, 8, 8, 8, 8, 8, 8, 8, 8, 8, 8, 8, 8, 8, 8, 8, 8, 8, 8, 8, 8, 8, 8, 8, 8, 8, 8, 8, 8, 8, 8, 8, 8, 8, 8, 8, 8, 8, 8, 8, 8, 8, 8, 8, 8, 8, 8, 8, 8, 8, 8, 8, 8, 8, 8, 8, 8, 8, 8, 8, 8, 8, 8, 8, 8, 8, 8, 8, 8, 8, 8, 8, 8, 8, 8, 8, 8, 8, 8, 8, 8, 8, 8, 8, 8, 8, 8, 8, 8, 8, 8, 8, 8, 8, 8]⟩ : ByteArray) (ji6)))))) else (none)) else (none)) = some r := by first | (rw [hji6] at H; exact H) | (simp only [hji6] at H ⊢; exact H)
          by_cases c7 : 0 ≤ (ji6)
          · rw [if_pos c7] at H
            have c7b0 : decide (0 ≤ (ji6)) = true := decide_eq_true c7
            clear c7
            by_cases c8 : (ji6) < 256
            · rw [if_pos c8] at H
              have c8b0 : decide ((ji6) < 256) = true := decide_eq_true c8
              clear c8
              obtain rfl := Option.some.inj H
              have p9 : 0 ≤ ((ji6) : Int) := of_decide_eq_true (by first | (with_reducible assumption) | assumption)
              have q9 : (ji6) < (256 : Int) := of_decide_eq_true (by first | (with_reducible assumption) | assumption)
              have hx9 := bt_at (⟨#[0, 1, 2, 2, 3, 3, 3, 3, 4, 4, 4, 4, 4, 4, 4, 4, 5, 5, 5, 5, 5, 5, 5, 5, 5, 5, 5, 5, 5, 5, 5, 5, 6, 6, 6, 6, 6, 6, 6, 6, 6, 6, 6, 6, 6, 6, 6, 6, 6, 6, 6, 6, 6, 6, 6, 6, 6, 6, 6, 6, 6, 6, 6, 6, 7, 7, 7, 7, 7, 7, 7, 7, 7, 7, 7, 7, 7, 7, 7, 7, 7, 7, 7, 7, 7, 7, 7, 7, 7, 7, 7, 7, 7, 7, 7, 7, 7, 7, 7, 7, 7, 7, 7, 7, 7, 7, 7, 7, 7, 7, 7, 7, 7, 7, 7, 7, 7, 7, 7, 7, 7, 7, 7, 7, 7, 7, 7, 7, 8, 8, 8, 8, 8, 8, 8, 8, 8, 8, 8, 8, 8, 8, 8, 8, 8, 8, 8, 8, 8, 8, 8, 8, 8, 8, 8, 8, 8, 8, 8, 8, 8, 8, 8, 8, 8, 8, 8, 8, 8, 8, 8, 8, 8, 8, 8, 8, 8, 8, 8, 8, 8, 8, 8, 8, 8, 8, 8, 8, 8, 8, 8, 8, 8, 8, 8, 8, 8, 8, 8, 8, 8, 8, 8, 8, 8, 8, 8, 8, 8, 8, 8, 8, 8, 8, 8, 8, 8, 8, 8, 8, 8, 8, 8, 8, 8, 8, 8, 8, 8, 8, 8, 8, 8, 8, 8, 8, 8, 8, 8, 8, 8, 8, 8, 8, 8, 8, 8, 8, 8, 8, 8, 8, 8, 8, 8, 8]⟩ : ByteArray) (ji6)
              replace p9 := eq_true p9
              replace q9 := eq_true q9
              go_wp2
              go_ret
              exact ⟨by first | rfl | (simp; done) | (simp only [← hji6] <;> (first | rfl | simp)) | (simp [*]; done), by repeat (first | exact Drawn0.refl _ | apply Drawn0.step)⟩
            · rw [if_neg c8] at H
              exact absurd H (by simp)
          · rw [if_neg c7] at H
            exact absurd H (by simp)
        · rw [if_neg c5] at H
          have c5b0 : decide (256 ≤ (x0_1 / 65536)) = false := decide_eq_false c5
          clear c5
          obtain ⟨ji10, hji10⟩ : ∃ j_ : Int, ((x0_1 / 65536) % 256) = j_ := ⟨_, rfl⟩
          replace H : (if 0 ≤ (ji10) then (if (ji10) < 256 then (some (wrap64 ((wrap64 (x2_1 + 16)) + (wrap64 (bt (⟨#[0, 1, 2, 2, 3, 3, 3, 3, 4, 4, 4, 4, 4, 4, 4, 4, 5, 5, 5, 5, 5, 5, 5, 5, 5, 5, 5, 5, 5, 5, 5, 5, 6, 6, 6, 6, 6, 6, 6, 6, 6, 6, 6, 6, 6, 6, 6, 6, 6, 6, 6, 6, 6, 6, 6, 6, 6, 6, 6, 6, 6, 6, 6, 6, 7, 7, 7, 7, 7, 7, 7, 7, 7, 7, 7, 7, 7, 7, 7, 7, 7, 7, 7, 7, 7, 7, 7, 7, 7, 7, 7, 7, 7, 7, 7, 7, 7, 7, 7, 7, 7, 7, 7, 7, 7, 7, 7, 7, 7, 7, 7, 7, 7, 7, 7, 7, 7, 7, 7, 7, 7, 7, 7, 7, 7, 7, 7, 7, 8, 8, 8, 8, 8, 8, 8, 8, 8, 8, 8, 8, 8, 8, 8, 8, 8, 8, 8, 8, 8, 8, 8, 8, 8, 8, 8, 8, 8, 8, 8, 8, 8, 8, 8, 8, 8, 8, 8, 8, 8, 8, 8, 8, 8, 8, 8, 8, 8, 8, 8, 8, 8, 8, 8, 8, 8, 8, 8, 8, 8, 8, 8, 8, 8, 8, 8, 8, 8, 8, 8, 8, 8, 8, 8, 8, 8, 8, 8, 8, 8, 8, 8, 8, 8, 8, 8, 8, 8, 8, 8, 8, 8, 8, 8, 8, 8, 8, 8, 8, 8, 8, 8, 8, 8, 8, 8, 8, 8, 8, 8, 8, 8, 8, 8, 8, 8, 8, 8, 8, 8, 8, 8, 8, 8, 8, 8, 8]⟩ : ByteArray) (ji10)))))) else (none)) else (none)) = some r := by first | (rw [hji10] at H; exact H) | (simp only [hji10] at H ⊢; exact H)
          by_cases c11 : 0 ≤ (ji10)
          · rw [if_pos c11] at H
            have c11b0 : decide (0 ≤ (ji10)) = true := decide_eq_true c11
            clear c11
            by_cases c12 : (ji10) < 256
            · rw [if_pos c12] at H
              have c12b0 : decide ((ji10) < 256) = true := decide_eq_true c12
              clear c12
              obtain rfl := Option.some.inj H
              have p13 : 0 ≤ ((ji10) : Int) := of_decide_eq_true (by first | (with_reducible assumption) | assumption)
              have q13 : (ji10) < (256 : Int) := of_decide_eq_true (by first | (with_reducible assumption) | assumption)
              have hx13 := bt_at (⟨#[0, 1, 2, 2, 3, 3, 3, 3, 4, 4, 4, 4, 4, 4, 4, 4, 5, 5, 5, 5, 5, 5, 5, 5, 5, 5, 5, 5, 5, 5, 5, 5, 6, 6, 6, 6, 6, 6, 6, 6, 6, 6, 6, 6, 6, 6, 6, 6, 6, 6, 6, 6, 6, 6, 6, 6, 6, 6, 6, 6, 6, 6, 6, 6, 7, 7, 7, 7, 7, 7, 7, 7, 7, 7, 7, 7, 7, 7, 7, 7, 7, 7, 7, 7, 7, 7, 7, 7, 7, 7, 7, 7, 7, 7, 7, 7, 7, 7, 7, 7, 7, 7, 7, 7, 7, 7, 7, 7, 7, 7, 7, 7, 7, 7, 7, 7, 7, 7, 7, 7, 7, 7, 7, 7, 7, 7, 7, 7, 8, 8, 8, 8, 8, 8, 8, 8, 8, 8, 8, 8, 8, 8, 8, 8, 8, 8, 8, 8, 8, 8, 8, 8, 8, 8, 8, 8, 8, 8, 8, 8, 8, 8, 8, 8, 8, 8, 8, 8, 8, 8, 8, 8, 8, 8, 8, 8, 8, 8, 8, 8, 8, 8, 8, 8, 8, 8, 8, 8, 8, 8, 8, 8, 8, 8, 8, 8, 8, 8, 8, 8, 8, 8, 8, 8, 8, 8, 8, 8, 8, 8, 8, 8, 8, 8, 8, 8, 8, 8, 8, 8, 8, 8, 8, 8, 8, 8, 8, 8, 8, 8, 8, 8, 8, 8, 8, 8, 8, 8, 8, 8, 8, 8, 8, 8, 8, 8, 8, 8, 8, 8, 8, 8, 8, 8, 8, 8]⟩ : ByteArray) (ji10)
              replace p13 := eq_true p13
              replace q13 := eq_true q13
              go_wp2
              go_ret
              exact ⟨by first | rfl | (simp; done) | (simp only [← hji10] <;> (first | rfl | simp)) | (simp [*]; done), by repeat (first | exact Drawn0.refl _ | apply Drawn0.step)⟩
            · rw [if_neg c12] at H
              exact absurd H (by simp)
          · rw [if_neg c11] at H
            exact absurd H (by simp)
      · rw [if_neg c4] at H
        have c4b0 : decide (65536 ≤ x0_1) = false := decide_eq_false c4
        clear c4
        by_cases c14 : x0_1 ≥ 256
        · rw [if_pos c14] at H
          have c14b0 : decide (256 ≤ x0_1) = true := decide_eq_true c14
          clear c14
          obtain ⟨ji15, hji15⟩ : ∃ j_ : Int, ((x0_1 / 256) % 256) = j_ := ⟨_, rfl⟩
          replace H : (if 0 ≤ (ji15) then (if (ji15) < 256 then (some (wrap64 ((wrap64 (x2_1 + 8)) + (wrap64 (bt (⟨#[0, 1, 2, 2, 3, 3, 3, 3, 4, 4, 4, 4, 4, 4, 4, 4, 5, 5, 5, 5, 5, 5, 5, 5, 5, 5, 5, 5, 5, 5, 5, 5, 6, 6, 6, 6, 6, 6, 6, 6, 6, 6, 6, 6, 6, 6, 6, 6, 6, 6, 6, 6, 6, 6, 6, 6, 6, 6, 6, 6, 6, 6, 6, 6, 7, 7, 7, 7, 7, 7, 7, 7, 7, 7, 7, 7, 7, 7, 7, 7, 7, 7, 7, 7, 7, 7, 7, 7, 7, 7, 7, 7, 7, 7, 7, 7, 7, 7, 7, 7, 7, 7, 7, 7, 7, 7, 7, 7, 7, 7, 7, 7, 7, 7, 7, 7, 7, 7, 7, 7, 7, 7, 7, 7, 7, 7, 7, 7, 8, 8, 8, 8, 8, 8, 8, 8, 8, 8, 8, 8, 8, 8, 8, 8, 8, 8, 8, 8, 8, 8, 8, 8, 8, 8, 8, 8, 8, 8, 8, 8, 8, 8, 8, 8, 8, 8, 8, 8, 8, 8, 8, 8, 8, 8, 8, 8, 8, 8, 8, 8, 8, 8, 8, 8, 8, 8, 8, 8, 8, 8, 8, 8, 8, 8, 8, 8, 8, 8, 8, 8, 8, 8, 8, 8, 8, 8, 8, 8, 8, 8, 8, 8, 8, 8, 8, 8, 8, 8, 8, 8, 8, 8, 8, 8, 8, 8, 8, 8, 8, 8, 8, 8, 8, 8, 8, 8, 8, 8, 8, 8, 8, 8, 8, 8, 8, 8, 8, 8, 8, 8, 8, 8, 8, 8, 8, 8]⟩ : ByteArray) (ji15)))))) else (none)) else (none)) = some r := by first | (rw [hji15] at H; exact H) | (simp only [hji15] at H ⊢; exact H)
          by_cases c16 : 0 ≤ (ji15)
          · rw [if_pos c16] at H
            have c16b0 : decide (0 ≤ (ji15)) = true := decide_eq_true c16
            clear c16
            by_cases c17 : (ji15) < 256
            · rw [if_pos c17] at H
              have c17b0 : decide ((ji15) < 256) = true := decide_eq_true c17
              clear c17
              obtain rfl := Option.some.inj H
              have p18 : 0 ≤ ((ji15) : Int) := of_decide_eq_true (by first | (with_reducible assumption) | assumption)
              have q18 : (ji15) < (256 : Int) := of_decide_eq_true (by first | (with_reducible assumption) | assumption)
              have hx18 := bt_at (⟨#[0, 1, 2, 2, 3, 3, 3, 3, 4, 4, 4, 4, 4, 4, 4, 4, 5, 5, 5, 5, 5, 5, 5, 5, 5, 5, 5, 5, 5, 5, 5, 5, 6, 6, 6, 6, 6, 6, 6, 6, 6, 6, 6, 6, 6, 6, 6, 6, 6, 6, 6, 6, 6, 6, 6, 6, 6, 6, 6, 6, 6, 6, 6, 6, 7, 7, 7, 7, 7, 7, 7, 7, 7, 7, 7, 7, 7, 7, 7, 7, 7, 7, 7, 7, 7, 7, 7, 7, 7, 7, 7, 7, 7, 7, 7, 7, 7, 7, 7, 7, 7, 7, 7, 7, 7, 7, 7, 7, 7, 7, 7, 7, 7, 7, 7, 7, 7, 7, 7, 7, 7, 7, 7, 7, 7, 7, 7, 7, 8, 8, 8, 8, 8, 8, 8, 8, 8, 8, 8, 8, 8, 8, 8, 8, 8, 8, 8, 8, 8, 8, 8, 8, 8, 8, 8, 8, 8, 8, 8, 8, 8, 8, 8, 8, 8, 8, 8, 8, 8, 8, 8, 8, 8, 8, 8, 8, 8, 8, 8, 8, 8, 8, 8, 8, 8, 8, 8, 8, 8, 8, 8, 8, 8, 8, 8, 8, 8, 8, 8, 8, 8, 8, 8, 8, 8, 8, 8, 8, 8, 8, 8, 8, 8, 8, 8, 8, 8, 8, 8, 8, 8, 8, 8, 8, 8, 8, 8, 8, 8, 8, 8, 8, 8, 8, 8, 8, 8, 8, 8, 8, 8, 8, 8, 8, 8, 8, 8, 8, 8, 8, 8, 8, 8, 8, 8, 8]⟩ : ByteArray) (ji15)
              replace p18 := eq_true p18
              replace q18 := eq_true q18
              go_wp2
              go_ret
              exact ⟨by first | rfl | (simp; done) | (simp only [← hji15] <;> (first | rfl | simp)) | (simp [*]; done), by repeat (first | exact Drawn0.refl _ | apply Drawn0.step)⟩
            · rw [if_neg c17] at H
              exact absurd H (by simp)
          · rw [if_neg c16] at H
            exact absurd H (by simp)
        · rw [if_neg c14] at H
          have c14b0 : decide (256 ≤ x0_1) = false := decide_eq_false c14
          clear c14
          obtain ⟨ji19, hji19⟩ : ∃ j_ : Int, ((x0_1) % 256) = j_ := ⟨_, rfl⟩
          replace H : (if 0 ≤ (ji19) then (if (ji19) < 256 then (some (wrap64 (x2_1 + (wrap64 (bt (⟨#[0, 1, 2, 2, 3, 3, 3, 3, 4, 4, 4, 4, 4, 4, 4, 4, 5, 5, 5, 5, 5, 5, 5, 5, 5, 5, 5, 5, 5, 5, 5, 5, 6, 6, 6, 6, 6, 6, 6, 6, 6, 6, 6, 6, 6, 6, 6, 6, 6, 6, 6, 6, 6, 6, 6, 6, 6, 6, 6, 6, 6, 6, 6, 6, 7, 7, 7, 7, 7, 7, 7, 7, 7, 7, 7, 7, 7, 7, 7, 7, 7, 7, 7, 7, 7, 7, 7, 7, 7, 7, 7, 7, 7, 7, 7, 7, 7, 7, 7, 7, 7, 7, 7, 7, 7, 7, 7, 7, 7, 7, 7, 7, 7, 7, 7, 7, 7, 7, 7, 7, 7, 7, 7, 7, 7, 7, 7, 7, 8, 8, 8, 8, 8, 8, 8, 8, 8, 8, 8, 8, 8, 8, 8, 8, 8, 8, 8, 8, 8, 8, 8, 8, 8, 8, 8, 8, 8, 8, 8, 8, 8, 8, 8, 8, 8, 8, 8, 8, 8, 8, 8, 8, 8, 8, 8, 8, 8, 8, 8, 8, 8, 8, 8, 8, 8, 8, 8, 8, 8, 8, 8, 8, 8, 8, 8, 8, 8, 8, 8, 8, 8, 8, 8, 8, 8, 8, 8, 8, 8, 8, 8, 8, 8, 8, 8, 8, 8, 8, 8, 8, 8, 8, 8, 8, 8, 8, 8, 8, 8, 8, 8, 8, 8, 8, 8, 8, 8, 8, 8, 8, 8, 8, 8, 8, 8, 8, 8, 8, 8, 8, 8, 8, 8, 8, 8, 8]⟩ : ByteArray) (ji19)))))) else (none)) else (none)) = some r := by first | (rw [hji19] at H; exact H) | (simp only [hji19] at H ⊢; exact H)
          by_cases c20 : 0 ≤ (ji19)
          · rw [if_pos c20] at H
            have c20b0 : decide (0 ≤ (ji19)) = true := decide_eq_true c20
            clear c20
            by_cases c21 : (ji19) < 256
            · rw [if_pos c21] at H
              have c21b0 : decide ((ji19) < 256) = true := decide_eq_true c21
              clear c21
              obtain rfl := Option.some.inj H
              have p22 : 0 ≤ ((ji19) : Int) := of_decide_eq_true (by first | (with_reducible assumption) | assumption)
              have q22 : (ji19) < (256 : Int) := of_decide_eq_true (by first | (with_reducible assumption) | assumption)
              have hx22 := bt_at (⟨#[0, 1, 2, 2, 3, 3, 3, 3, 4, 4, 4, 4, 4, 4, 4, 4, 5, 5, 5, 5, 5, 5, 5, 5, 5, 5, 5, 5, 5, 5, 5, 5, 6, 6, 6, 6, 6, 6, 6, 6, 6, 6, 6, 6, 6, 6, 6, 6, 6, 6, 6, 6, 6, 6, 6, 6, 6, 6, 6, 6, 6, 6, 6, 6, 7, 7, 7, 7, 7, 7, 7, 7, 7, 7, 7, 7, 7, 7, 7, 7, 7, 7, 7, 7, 7, 7, 7, 7, 7, 7, 7, 7, 7, 7, 7, 7, 7, 7, 7, 7, 7, 7, 7, 7, 7, 7, 7, 7, 7, 7, 7, 7, 7, 7, 7, 7, 7, 7, 7, 7, 7, 7, 7, 7, 7, 7, 7, 7, 8, 8, 8, 8, 8, 8, 8, 8, 8, 8, 8, 8, 8, 8, 8, 8, 8, 8, 8, 8, 8, 8, 8, 8, 8, 8, 8, 8, 8, 8, 8, 8, 8, 8, 8, 8, 8, 8, 8, 8, 8, 8, 8, 8, 8, 8, 8, 8, 8, 8, 8, 8, 8, 8, 8, 8, 8, 8, 8, 8, 8, 8, 8, 8, 8, 8, 8, 8, 8, 8, 8, 8, 8, 8, 8, 8, 8, 8, 8, 8, 8, 8, 8, 8, 8, 8, 8, 8, 8, 8, 8, 8, 8, 8, 8, 8, 8, 8, 8, 8, 8, 8, 8, 8, 8, 8, 8, 8, 8, 8, 8, 8, 8, 8, 8, 8, 8, 8, 8, 8, 8, 8, 8, 8, 8, 8, 8, 8]⟩ : ByteArray) (ji19)
              replace p22 := eq_true p22
              replace q22 := eq_true q22
              go_wp2
              go_ret
              exact ⟨by first | rfl | (simp; done) | (simp only [← hji19] <;> (first | rfl | simp)) | (simp [*]; done), by repeat (first | exact Drawn0.refl _ | apply Drawn0.step)⟩
            · rw [if_neg c21] at H
              exact absurd H (by simp)
          · rw [if_neg c20] at H
            exact absurd H (by simp)

/-! ### compact_Decompose: function 40 -/
def compact_Decompose.f (k : Nat) (a0 : Int) (a1 : Int) : Option (Int × Int) := if a0 = 0 then (some (0, a1)) else ((bits_Len64.f k (Go.bits .xor .u64 (IntKind.u64.wrap (a0 - 1)) a1)).bind fun t275 => (if 0 ≤ (IntKind.u64.wrap (wrap64 (t275 - 1))) then (some (Go.bits .and .u64 (Go.bits .xor .u64 18446744073709551615 (IntKind.u64.wrap (a0 - 1))) (IntKind.u64.wrap ((shl .u64 1 (IntKind.u64.wrap (wrap64 (t275 - 1)))) - 1)), Go.bits .and .u64 a1 (IntKind.u64.wrap ((shl .u64 1 (IntKind.u64.wrap (wrap64 (t275 - 1)))) - 1)))) else (none)))
theorem compact_Decompose.mono : ∀ a0 a1 k, LeO (compact_Decompose.f k a0 a1) (compact_Decompose.f (k + 1) a0 a1) := by
  intro a0 a1 k
  unfold compact_Decompose.f
  repeat' first
      | (with_reducible exact bits_Len64.mono _ _)
      | (with_reducible exact LeO.refl _)
      | (with_reducible exact LeO.none _)
      | (with_reducible refine LeO.ite ?_ ?_)
      | (with_reducible refine LeO.bind ?_ (fun _ => ?_))
      | exact bits_Len64.mono _ _
      | exact LeO.none _
      | refine LeO.ite ?_ ?_
      | refine LeO.bind ?_ (fun _ => ?_)
set_option maxHeartbeats 8000000 in
set_option maxRecDepth 100000 in
theorem compact_Decompose.calls (k : Nat) (a0 : Int) (a1 : Int) (r1 : Int) (r2 : Int) (w : World) (h : compact_Decompose.f k a0 a1 = some (r1, r2)) :
    Calls Try.prog 40 #[.int .u64 a0, .int .u64 a1] w fun e w' => e = .returned (.tuple #[.int .u64 r1, .int .u64 r2]) ∧ Drawn0 w w' := by
  have H : (if a0 = 0 then (some (0, a1)) else ((bits_Len64.f k (Go.bits .xor .u64 (IntKind.u64.wrap (a0 - 1)) a1)).bind fun t275 => (if 0 ≤ (IntKind.u64.wrap (wrap64 (t275 - 1))) then (some (Go.bits .and .u64 (Go.bits .xor .u64 18446744073709551615 (IntKind.u64.wrap (a0 - 1))) (IntKind.u64.wrap ((shl .u64 1 (IntKind.u64.wrap (wrap64 (t275 - 1)))) - 1)), Go.bits .and .u64 a1 (IntKind.u64.wrap ((shl .u64 1 (IntKind.u64.wrap (wrap64 (t275 - 1)))) - 1)))) else (none)))) = some (r1, r2) := h
  clear h
  by_cases c3 : a0 = 0
  · rw [if_pos c3] at H
    have c3b0 : (a0 == 0) = true := beq_iff_eq.mpr c3
    have c3b1 : (a0 != 0) = false := bne_eq_false_iff_eq.mpr c3
    clear c3
    simp only [Option.some.injEq, Prod.mk.injEq] at H
    obtain ⟨rfl, rfl⟩ := H
    go_enter Try.func40, Try.ntmps40
    go_wp2
    go_ret2
    exact ⟨by first | rfl | (simp; done) | (simp [*]; done), by repeat (first | exact Drawn0.refl _ | apply Drawn0.step)⟩
  · rw [if_neg c3] at H
    have c3b0 : (a0 == 0) = false := beq_eq_false_iff_ne.mpr c3
    have c3b1 : (a0 != 0) = true := bne_iff_ne.mpr c3
    replace H := Option.bind_eq_some_iff.mp H
    obtain ⟨t275, A40, H⟩ := H
    replace H : (if 0 ≤ (IntKind.u64.wrap (wrap64 (t275 - 1))) then (some (Go.bits .and .u64 (Go.bits .xor .u64 18446744073709551615 (IntKind.u64.wrap (a0 - 1))) (IntKind.u64.wrap ((shl .u64 1 (IntKind.u64.wrap (wrap64 (t275 - 1)))) - 1)), Go.bits .and .u64 a1 (IntKind.u64.wrap ((shl .u64 1 (IntKind.u64.wrap (wrap64 (t275 - 1)))) - 1)))) else (none)) = some (r1, r2) := H
    have A4 := Aside0.mk A40
    clear A40
    obtain ⟨ji5, hji5⟩ : ∃ j_ : Int, (IntKind.u64.wrap (wrap64 (t275 - 1))) = j_ := ⟨_, rfl⟩
    replace H : (if 0 ≤ (ji5) then (some (Go.bits .and .u64 (Go.bits .xor .u64 18446744073709551615 (IntKind.u64.wrap (a0 - 1))) (IntKind.u64.wrap ((shl .u64 1 (ji5)) - 1)), Go.bits .and .u64 a1 (IntKind.u64.wrap ((shl .u64 1 (ji5)) - 1)))) else (none)) = some (r1, r2) := by first | (rw [hji5] at H; exact H) | (simp only [hji5] at H ⊢; exact H)
    (try rw [hji5] at A4)
    by_cases c6 : 0 ≤ (ji5)
    · rw [if_pos c6] at H
      have c6b0 := eq_true c6
      have c6b1 : decide (0 ≤ (ji5)) = true := decide_eq_true c6
      clear c6
      obtain ⟨ji7, hji7⟩ : ∃ j_ : Int, (shl .u64 1 (ji5)) = j_ := ⟨_, rfl⟩
      replace H : (some (Go.bits .and .u64 (Go.bits .xor .u64 18446744073709551615 (IntKind.u64.wrap (a0 - 1))) (IntKind.u64.wrap ((ji7) - 1)), Go.bits .and .u64 a1 (IntKind.u64.wrap ((ji7) - 1)))) = some (r1, r2) := by first | (rw [hji7] at H; exact H) | (simp only [hji7] at H ⊢; exact H)
      (try rw [hji7] at A4)
      have hji7_ : (IntKind.u64.wrap (1 * 2 ^ min (ji5).toNat 64)) = ji7 := hji7
      have hji7z : (ji5) ≤ 64 → (IntKind.u64.wrap (1 * 2 ^ (ji5).toNat)) = ji7 := shl_small hji7
      have hji7u : (IntKind.u64.wrap (2 ^ min (ji5).toNat 64)) = ji7 := by have h_ := hji7_; rw [Int.one_mul] at h_; exact h_
      have hji7v : (ji5) ≤ 64 → (IntKind.u64.wrap (2 ^ (ji5).toNat)) = ji7 := fun hle_ => by have h_ := hji7z hle_; rw [Int.one_mul] at h_; exact h_
      simp only [Option.some.injEq, Prod.mk.injEq] at H
      obtain ⟨rfl, rfl⟩ := H
      go_enter Try.func40, Try.ntmps40
      go_wp2_with (first | ((with_reducible refine gate_callee (f := 43) rfl ?_); refine goesL_ (some 17) rfl rfl Try.func43 (by kernel_rfl) rfl #[.int .u64 (Go.bits .xor .u64 (IntKind.u64.wrap (a0 - 1)) a1)] rfl (by (try simp only [List.map_toArray, List.map_cons, List.map_nil]); first | done | rfl | (simp only [List.length_drop, List.length_take]; rfl)) ?_; (with_reducible refine (bits_Len64.calls k (Go.bits .xor .u64 (IntKind.u64.wrap (a0 - 1)) a1) t275 _ A4.out).mono ?_); rintro e w' ⟨rfl, ⟨nd, rfl⟩⟩; refine ⟨_, rfl, ?_⟩))
      go_ret2
      exact ⟨by first | rfl | (simp; done) | (simp only [← hji5, ← hji7] <;> (first | rfl | simp)) | (simp [*]; done), by repeat (first | exact Drawn0.refl _ | apply Drawn0.step)⟩
    · rw [if_neg c6] at H
      exact absurd H (by simp)

/-! ### bits_OnesCount64: function 41 -/
def bits_OnesCount64.f (a0 : Int) : Option (Int) := some (Go.bits .and .i64 (wrap64 (IntKind.u64.wrap ((IntKind.u64.wrap ((IntKind.u64.wrap ((Go.bits .and .u64 (IntKind.u64.wrap (((IntKind.u64.wrap ((Go.bits .and .u64 ((IntKind.u64.wrap ((Go.bits .and .u64 (a0 / 2) 6148914691236517205) + (Go.bits .and .u64 a0 6148914691236517205))) / 4) 3689348814741910323) + (Go.bits .and .u64 (IntKind.u64.wrap ((Go.bits .and .u64 (a0 / 2) 6148914691236517205) + (Go.bits .and .u64 a0 6148914691236517205))) 3689348814741910323))) / 16) + (IntKind.u64.wrap ((Go.bits .and .u64 ((IntKind.u64.wrap ((Go.bits .and .u64 (a0 / 2) 6148914691236517205) + (Go.bits .and .u64 a0 6148914691236517205))) / 4) 3689348814741910323) + (Go.bits .and .u64 (IntKind.u64.wrap ((Go.bits .and .u64 (a0 / 2) 6148914691236517205) + (Go.bits .and .u64 a0 6148914691236517205))) 3689348814741910323))))) 1085102592571150095) + ((Go.bits .and .u64 (IntKind.u64.wrap (((IntKind.u64.wrap ((Go.bits .and .u64 ((IntKind.u64.wrap ((Go.bits .and .u64 (a0 / 2) 6148914691236517205) + (Go.bits .and .u64 a0 6148914691236517205))) / 4) 3689348814741910323) + (Go.bits .and .u64 (IntKind.u64.wrap ((Go.bits .and .u64 (a0 / 2) 6148914691236517205) + (Go.bits .and .u64 a0 6148914691236517205))) 3689348814741910323))) / 16) + (IntKind.u64.wrap ((Go.bits .and .u64 ((IntKind.u64.wrap ((Go.bits .and .u64 (a0 / 2) 6148914691236517205) + (Go.bits .and .u64 a0 6148914691236517205))) / 4) 3689348814741910323) + (Go.bits .and .u64 (IntKind.u64.wrap ((Go.bits .and .u64 (a0 / 2) 6148914691236517205) + (Go.bits .and .u64 a0 6148914691236517205))) 3689348814741910323))))) 1085102592571150095) / 256))) + ((IntKind.u64.wrap ((Go.bits .and .u64 (IntKind.u64.wrap (((IntKind.u64.wrap ((Go.bits .and .u64 ((IntKind.u64.wrap ((Go.bits .and .u64 (a0 / 2) 6148914691236517205) + (Go.bits .and .u64 a0 6148914691236517205))) / 4) 3689348814741910323) + (Go.bits .and .u64 (IntKind.u64.wrap ((Go.bits .and .u64 (a0 / 2) 6148914691236517205) + (Go.bits .and .u64 a0 6148914691236517205))) 3689348814741910323))) / 16) + (IntKind.u64.wrap ((Go.bits .and .u64 ((IntKind.u64.wrap ((Go.bits .and .u64 (a0 / 2) 6148914691236517205) + (Go.bits .and .u64 a0 6148914691236517205))) / 4) 3689348814741910323) + (Go.bits .and .u64 (IntKind.u64.wrap ((Go.bits .and .u64 (a0 / 2) 6148914691236517205) + (Go.bits .and .u64 a0 6148914691236517205))) 3689348814741910323))))) 1085102592571150095) + ((Go.bits .and .u64 (IntKind.u64.wrap (((IntKind.u64.wrap ((Go.bits .and .u64 ((IntKind.u64.wrap ((Go.bits .and .u64 (a0 / 2) 6148914691236517205) + (Go.bits .and .u64 a0 6148914691236517205))) / 4) 3689348814741910323) + (Go.bits .and .u64 (IntKind.u64.wrap ((Go.bits .and .u64 (a0 / 2) 6148914691236517205) + (Go.bits .and .u64 a0 6148914691236517205))) 3689348814741910323))) / 16) + (IntKind.u64.wrap ((Go.bits .and .u64 ((IntKind.u64.wrap ((Go.bits .and .u64 (a0 / 2) 6148914691236517205) + (Go.bits .and .u64 a0 6148914691236517205))) / 4) 3689348814741910323) + (Go.bits .and .u64 (IntKind.u64.wrap ((Go.bits .and .u64 (a0 / 2) 6148914691236517205) + (Go.bits .and .u64 a0 6148914691236517205))) 3689348814741910323))))) 1085102592571150095) / 256))) / 65536))) + ((IntKind.u64.wrap ((IntKind.u64.wrap ((Go.bits .and .u64 (IntKind.u64.wrap (((IntKind.u64.wrap ((Go.bits .and .u64 ((IntKind.u64.wrap ((Go.bits .and .u64 (a0 / 2) 6148914691236517205) + (Go.bits .and .u64 a0 6148914691236517205))) / 4) 3689348814741910323) + (Go.bits .and .u64 (IntKind.u64.wrap ((Go.bits .and .u64 (a0 / 2) 6148914691236517205) + (Go.bits .and .u64 a0 6148914691236517205))) 3689348814741910323))) / 16) + (IntKind.u64.wrap ((Go.bits .and .u64 ((IntKind.u64.wrap ((Go.bits .and .u64 (a0 / 2) 6148914691236517205) + (Go.bits .and .u64 a0 6148914691236517205))) / 4) 3689348814741910323) + (Go.bits .and .u64 (IntKind.u64.wrap ((Go.bits .and .u64 (a0 / 2) 6148914691236517205) + (Go.bits .and .u64 a0 6148914691236517205))) 3689348814741910323))))) 1085102592571150095) + ((Go.bits .and .u64 (IntKind.u64.wrap (((IntKind.u64.wrap ((Go.bits .and .u64 ((IntKind.u64.wrap ((Go.bits .and .u64 (a0 / 2) 6148914691236517205) + (Go.bits .and .u64 a0 6148914691236517205))) / 4) 3689348814741910323) + (Go.bits .and .u64 (IntKind.u64.wrap ((Go.bits .and .u64 (a0 / 2) 6148914691236517205) + (Go.bits .and .u64 a0 6148914691236517205))) 3689348814741910323))) / 16) + (IntKind.u64.wrap ((Go.bits .and .u64 ((IntKind.u64.wrap ((Go.bits .and .u64 (a0 / 2) 6148914691236517205) + (Go.bits .and .u64 a0 6148914691236517205))) / 4) 3689348814741910323) + (Go.bits .and .u64 (IntKind.u64.wrap ((Go.bits .and .u64 (a0 / 2) 6148914691236517205) + (Go.bits .and .u64 a0 6148914691236517205))) 3689348814741910323))))) 1085102592571150095) / 256))) + ((IntKind.u64.wrap ((Go.bits .and .u64 (IntKind.u64.wrap (((IntKind.u64.wrap ((Go.bits .and .u64 ((IntKind.u64.wrap ((Go.bits .and .u64 (a0 / 2) 6148914691236517205) + (Go.bits .and .u64 a0 6148914691236517205))) / 4) 3689348814741910323) + (Go.bits .and .u64 (IntKind.u64.wrap ((Go.bits .and .u64 (a0 / 2) 6148914691236517205) + (Go.bits .and .u64 a0 6148914691236517205))) 3689348814741910323))) / 16) + (IntKind.u64.wrap ((Go.bits .and .u64 ((IntKind.u64.wrap ((Go.bits .and .u64 (a0 / 2) 6148914691236517205) + (Go.bits .and .u64 a0 6148914691236517205))) / 4) 3689348814741910323) + (Go.bits .and .u64 (IntKind.u64.wrap ((Go.bits .and .u64 (a0 / 2) 6148914691236517205) + (Go.bits .and .u64 a0 6148914691236517205))) 3689348814741910323))))) 1085102592571150095) + ((Go.bits .and .u64 (IntKind.u64.wrap (((IntKind.u64.wrap ((Go.bits .and .u64 ((IntKind.u64.wrap ((Go.bits .and .u64 (a0 / 2) 6148914691236517205) + (Go.bits .and .u64 a0 6148914691236517205))) / 4) 3689348814741910323) + (Go.bits .and .u64 (IntKind.u64.wrap ((Go.bits .and .u64 (a0 / 2) 6148914691236517205) + (Go.bits .and .u64 a0 6148914691236517205))) 3689348814741910323))) / 16) + (IntKind.u64.wrap ((Go.bits .and .u64 ((IntKind.u64.wrap ((Go.bits .and .u64 (a0 / 2) 6148914691236517205) + (Go.bits .and .u64 a0 6148914691236517205))) / 4) 3689348814741910323) + (Go.bits .and .u64 (IntKind.u64.wrap ((Go.bits .and .u64 (a0 / 2) 6148914691236517205) + (Go.bits .and .u64 a0 6148914691236517205))) 3689348814741910323))))) 1085102592571150095) / 256))) / 65536))) / 4294967296)))) 127)
set_option maxHeartbeats 8000000 in
set_option maxRecDepth 100000 in
theorem bits_OnesCount64.calls (a0 : Int) (r : Int) (w : World) (h : bits_OnesCount64.f a0 = some r) :
    Calls Try.prog 41 #[.int .u64 a0] w fun e w' => e = .returned (.int .i64 r) ∧ Drawn0 w w' := by
  have H : (some (Go.bits .and .i64 (wrap64 (IntKind.u64.wrap ((IntKind.u64.wrap ((IntKind.u64.wrap ((Go.bits .and .u64 (IntKind.u64.wrap (((IntKind.u64.wrap ((Go.bits .and .u64 ((IntKind.u64.wrap ((Go.bits .and .u64 (a0 / 2) 6148914691236517205) + (Go.bits .and .u64 a0 6148914691236517205))) / 4) 3689348814741910323) + (Go.bits .and .u64 (IntKind.u64.wrap ((Go.bits .and .u64 (a0 / 2) 6148914691236517205) + (Go.bits .and .u64 a0 6148914691236517205))) 3689348814741910323))) / 16) + (IntKind.u64.wrap ((Go.bits .and .u64 ((IntKind.u64.wrap ((Go.bits .and .u64 (a0 / 2) 6148914691236517205) + (Go.bits .and .u64 a0 6148914691236517205))) / 4) 3689348814741910323) + (Go.bits .and .u64 (IntKind.u64.wrap ((Go.bits .and .u64 (a0 / 2) 6148914691236517205) + (Go.bits .and .u64 a0 6148914691236517205))) 3689348814741910323))))) 1085102592571150095) + ((Go.bits .and .u64 (IntKind.u64.wrap (((IntKind.u64.wrap ((Go.bits .and .u64 ((IntKind.u64.wrap ((Go.bits .and .u64 (a0 / 2) 6148914691236517205) + (Go.bits .and .u64 a0 6148914691236517205))) / 4) 3689348814741910323) + (Go.bits .and .u64 (IntKind.u64.wrap ((Go.bits .and .u64 (a0 / 2) 6148914691236517205) + (Go.bits .and .u64 a0 6148914691236517205))) 3689348814741910323))) / 16) + (IntKind.u64.wrap ((Go.bits .and .u64 ((IntKind.u64.wrap ((Go.bits .and .u64 (a0 / 2) 6148914691236517205) + (Go.bits .and .u64 a0 6148914691236517205))) / 4) 3689348814741910323) + (Go.bits .and .u64 (IntKind.u64.wrap ((Go.bits .and .u64 (a0 / 2) 6148914691236517205) + (Go.bits .and .u64 a0 6148914691236517205))) 3689348814741910323))))) 1085102592571150095) / 256))) + ((IntKind.u64.wrap ((Go.bits .and .u64 (IntKind.u64.wrap (((IntKind.u64.wrap ((Go.bits .and .u64 ((IntKind.u64.wrap ((Go.bits .and .u64 (a0 / 2) 6148914691236517205) + (Go.bits .and .u64 a0 6148914691236517205))) / 4) 3689348814741910323) + (Go.bits .and .u64 (IntKind.u64.wrap ((Go.bits .and .u64 (a0 / 2) 6148914691236517205) + (Go.bits .and .u64 a0 6148914691236517205))) 3689348814741910323))) / 16) + (IntKind.u64.wrap ((Go.bits .and .u64 ((IntKind.u64.wrap ((Go.bits .and .u64 (a0 / 2) 6148914691236517205) + (Go.bits .and .u64 a0 6148914691236517205))) / 4) 3689348814741910323) + (Go.bits .and .u64 (IntKind.u64.wrap ((Go.bits .and .u64 (a0 / 2) 6148914691236517205) + (Go.bits .and .u64 a0 6148914691236517205))) 3689348814741910323))))) 1085102592571150095) + ((Go.bits .and .u64 (IntKind.u64.wrap (((IntKind.u64.wrap ((Go.bits .and .u64 ((IntKind.u64.wrap ((Go.bits .and .u64 (a0 / 2) 6148914691236517205) + (Go.bits .and .u64 a0 6148914691236517205))) / 4) 3689348814741910323) + (Go.bits .and .u64 (IntKind.u64.wrap ((Go.bits .and .u64 (a0 / 2) 6148914691236517205) + (Go.bits .and .u64 a0 6148914691236517205))) 3689348814741910323))) / 16) + (IntKind.u64.wrap ((Go.bits .and .u64 ((IntKind.u64.wrap ((Go.bits .and .u64 (a0 / 2) 6148914691236517205) + (Go.bits .and .u64 a0 6148914691236517205))) / 4) 3689348814741910323) + (Go.bits .and .u64 (IntKind.u64.wrap ((Go.bits .and .u64 (a0 / 2) 6148914691236517205) + (Go.bits .and .u64 a0 6148914691236517205))) 3689348814741910323))))) 1085102592571150095) / 256))) / 65536))) + ((IntKind.u64.wrap ((IntKind.u64.wrap ((Go.bits .and .u64 (IntKind.u64.wrap (((IntKind.u64.wrap ((Go.bits .and .u64 ((IntKind.u64.wrap ((Go.bits .and .u64 (a0 / 2) 6148914691236517205) + (Go.bits .and .u64 a0 6148914691236517205))) / 4) 3689348814741910323) + (Go.bits .and .u64 (IntKind.u64.wrap ((Go.bits .and .u64 (a0 / 2) 6148914691236517205) + (Go.bits .and .u64 a0 6148914691236517205))) 3689348814741910323))) / 16) + (IntKind.u64.wrap ((Go.bits .and .u64 ((IntKind.u64.wrap ((Go.bits .and .u64 (a0 / 2) 6148914691236517205) + (Go.bits .and .u64 a0 6148914691236517205))) / 4) 3689348814741910323) + (Go.bits .and .u64 (IntKind.u64.wrap ((Go.bits .and .u64 (a0 / 2) 6148914691236517205) + (Go.bits .and .u64 a0 6148914691236517205))) 3689348814741910323))))) 1085102592571150095) + ((Go.bits .and .u64 (IntKind.u64.wrap (((IntKind.u64.wrap ((Go.bits .and .u64 ((IntKind.u64.wrap ((Go.bits .and .u64 (a0 / 2) 6148914691236517205) + (Go.bits .and .u64 a0 6148914691236517205))) / 4) 3689348814741910323) + (Go.bits .and .u64 (IntKind.u64.wrap ((Go.bits .and .u64 (a0 / 2) 6148914691236517205) + (Go.bits .and .u64 a0 6148914691236517205))) 3689348814741910323))) / 16) + (IntKind.u64.wrap ((Go.bits .and .u64 ((IntKind.u64.wrap ((Go.bits .and .u64 (a0 / 2) 6148914691236517205) + (Go.bits .and .u64 a0 6148914691236517205))) / 4) 3689348814741910323) + (Go.bits .and .u64 (IntKind.u64.wrap ((Go.bits .and .u64 (a0 / 2) 6148914691236517205) + (Go.bits .and .u64 a0 6148914691236517205))) 3689348814741910323))))) 1085102592571150095) / 256))) + ((IntKind.u64.wrap ((Go.bits .and .u64 (IntKind.u64.wrap (((IntKind.u64.wrap ((Go.bits .and .u64 ((IntKind.u64.wrap ((Go.bits .and .u64 (a0 / 2) 6148914691236517205) + (Go.bits .and .u64 a0 6148914691236517205))) / 4) 3689348814741910323) + (Go.bits .and .u64 (IntKind.u64.wrap ((Go.bits .and .u64 (a0 / 2) 6148914691236517205) + (Go.bits .and .u64 a0 6148914691236517205))) 3689348814741910323))) / 16) + (IntKind.u64.wrap ((Go.bits .and .u64 ((IntKind.u64.wrap ((Go.bits .and .u64 (a0 / 2) 6148914691236517205) + (Go.bits .and .u64 a0 6148914691236517205))) / 4) 3689348814741910323) + (Go.bits .and .u64 (IntKind.u64.wrap ((Go.bits .and .u64 (a0 / 2) 6148914691236517205) + (Go.bits .and .u64 a0 6148914691236517205))) 3689348814741910323))))) 1085102592571150095) + ((Go.bits .and .u64 (IntKind.u64.wrap (((IntKind.u64.wrap ((Go.bits .and .u64 ((IntKind.u64.wrap ((Go.bits .and .u64 (a0 / 2) 6148914691236517205) + (Go.bits .and .u64 a0 6148914691236517205))) / 4) 3689348814741910323) + (Go.bits .and .u64 (IntKind.u64.wrap ((Go.bits .and .u64 (a0 / 2) 6148914691236517205) + (Go.bits .and .u64 a0 6148914691236517205))) 3689348814741910323))) / 16) + (IntKind.u64.wrap ((Go.bits .and .u64 ((IntKind.u64.wrap ((Go.bits .and .u64 (a0 / 2) 6148914691236517205) + (Go.bits .and .u64 a0 6148914691236517205))) / 4) 3689348814741910323) + (Go.bits .and .u64 (IntKind.u64.wrap ((Go.bits .and .u64 (a0 / 2) 6148914691236517205) + (Go.bits .and .u64 a0 6148914691236517205))) 3689348814741910323))))) 1085102592571150095) / 256))) / 65536))) / 4294967296)))) 127)) = some r := h
  clear h
  obtain rfl := Option.some.inj H
  go_enter Try.func41, Try.ntmps41
  go_wp2
  go_ret
  exact ⟨by first | rfl | (simp; done) | (simp [*]; done), by repeat (first | exact Drawn0.refl _ | apply Drawn0.step)⟩

/-! ### compact_RangeSize: function 37 -/
def compact_RangeSize.f (k : Nat) (a0 : Int) (a1 : Int) : Option (Int) := (compact_Decompose.f k a0 a1).bind fun bt276 => ((bits_OnesCount64.f bt276.1).bind fun t278 => ((bits_OnesCount64.f bt276.2).bind fun t279 => (some (wrap64 (t278 + t279)))))
theorem compact_RangeSize.mono : ∀ a0 a1 k, LeO (compact_RangeSize.f k a0 a1) (compact_RangeSize.f (k + 1) a0 a1) := by
  intro a0 a1 k
  unfold compact_RangeSize.f
  repeat' first
      | (with_reducible exact compact_Decompose.mono _ _ _)
      | (with_reducible exact LeO.refl _)
      | (with_reducible exact LeO.none _)
      | (with_reducible refine LeO.ite ?_ ?_)
      | (with_reducible refine LeO.bind ?_ (fun _ => ?_))
      | exact compact_Decompose.mono _ _ _
      | exact LeO.none _
      | refine LeO.ite ?_ ?_
      | refine LeO.bind ?_ (fun _ => ?_)
set_option maxHeartbeats 8000000 in
set_option maxRecDepth 100000 in
theorem compact_RangeSize.calls (k : Nat) (a0 : Int) (a1 : Int) (r : Int) (w : World) (h : compact_RangeSize.f k a0 a1 = some r) :
    Calls Try.prog 37 #[.int .u64 a0, .int .u64 a1] w fun e w' => e = .returned (.int .i64 r) ∧ Drawn0 w w' := by
  have H : ((compact_Decompose.f k a0 a1).bind fun bt276 => ((bits_OnesCount64.f bt276.1).bind fun t278 => ((bits_OnesCount64.f bt276.2).bind fun t279 => (some (wrap64 (t278 + t279)))))) = some r := h
  clear h
  replace H := Option.bind_eq_some_iff.mp H
  obtain ⟨⟨t276, t277⟩, A30, H⟩ := H
  replace H : ((bits_OnesCount64.f t276).bind fun t278 => ((bits_OnesCount64.f t277).bind fun t279 => (some (wrap64 (t278 + t279))))) = some r := H
  have A3 := Aside0.mk A30
  clear A30
  replace H := Option.bind_eq_some_iff.mp H
  obtain ⟨t278, A40, H⟩ := H
  replace H : ((bits_OnesCount64.f t277).bind fun t279 => (some (wrap64 (t278 + t279)))) = some r := H
  have A4 := Aside0.mk A40
  clear A40
  replace H := Option.bind_eq_some_iff.mp H
  obtain ⟨t279, A50, H⟩ := H
  replace H : (some (wrap64 (t278 + t279))) = some r := H
  have A5 := Aside0.mk A50
  clear A50
  obtain rfl := Option.some.inj H
  go_enter Try.func37, Try.ntmps37
  go_wp2_with (first | ((with_reducible refine gate_callee (f := 40) rfl ?_); refine goesL_ (some 10) rfl rfl Try.func40 (by kernel_rfl) rfl #[.int .u64 a0, .int .u64 a1] rfl (by (try simp only [List.map_toArray, List.map_cons, List.map_nil]); first | done | rfl | (simp only [List.length_drop, List.length_take]; rfl)) ?_; (with_reducible refine (compact_Decompose.calls k a0 a1 t276 t277 _ A3.out).mono ?_); rintro e w' ⟨rfl, ⟨nd, rfl⟩⟩; refine ⟨_, rfl, ?_⟩) | ((with_reducible refine gate_callee (f := 41) rfl ?_); refine goesL_ (some 14) rfl rfl Try.func41 (by kernel_rfl) rfl #[.int .u64 t276] rfl (by (try simp only [List.map_toArray, List.map_cons, List.map_nil]); first | done | rfl | (simp only [List.length_drop, List.length_take]; rfl)) ?_; (with_reducible refine (bits_OnesCount64.calls t276 t278 _ A4.out).mono ?_); rintro e w' ⟨rfl, ⟨nd, rfl⟩⟩; refine ⟨_, rfl, ?_⟩) | ((with_reducible refine gate_callee (f := 41) rfl ?_); refine goesL_ (some 16) rfl rfl Try.func41 (by kernel_rfl) rfl #[.int .u64 t277] rfl (by (try simp only [List.map_toArray, List.map_cons, List.map_nil]); first | done | rfl | (simp only [List.length_drop, List.length_take]; rfl)) ?_; (with_reducible refine (bits_OnesCount64.calls t277 t279 _ A5.out).mono ?_); rintro e w' ⟨rfl, ⟨nd, rfl⟩⟩; refine ⟨_, rfl, ?_⟩))
  go_ret
  exact ⟨by first | rfl | (simp; done) | (simp [*]; done), by repeat (first | exact Drawn0.refl _ | apply Drawn0.step)⟩

/-! ### proof_innerProofSize: function 42 -/
def proof_innerProofSize.f (k : Nat) (a0 : Int) (a1 : Int) : Option (Int) := (bits_Len64.f k (Go.bits .xor .u64 a0 (IntKind.u64.wrap (a1 - 1)))).bind fun t280 => (some t280)
theorem proof_innerProofSize.mono : ∀ a0 a1 k, LeO (proof_innerProofSize.f k a0 a1) (proof_innerProofSize.f (k + 1) a0 a1) := by
  intro a0 a1 k
  unfold proof_innerProofSize.f
  repeat' first
      | (with_reducible exact bits_Len64.mono _ _)
      | (with_reducible exact LeO.refl _)
      | (with_reducible exact LeO.none _)
      | (with_reducible refine LeO.ite ?_ ?_)
      | (with_reducible refine LeO.bind ?_ (fun _ => ?_))
      | exact bits_Len64.mono _ _
      | exact LeO.none _
      | refine LeO.ite ?_ ?_
      | refine LeO.bind ?_ (fun _ => ?_)
set_option maxHeartbeats 8000000 in
set_option maxRecDepth 100000 in
theorem proof_innerProofSize.calls (k : Nat) (a0 : Int) (a1 : Int) (r : Int) (w : World) (h : proof_innerProofSize.f k a0 a1 = some r) :
    Calls Try.prog 42 #[.int .u64 a0, .int .u64 a1] w fun e w' => e = .returned (.int .i64 r) ∧ Drawn0 w w' := by
  have H : ((bits_Len64.f k (Go.bits .xor .u64 a0 (IntKind.u64.wrap (a1 - 1)))).bind fun t280 => (some t280)) = some r := h
  clear h
  replace H := Option.bind_eq_some_iff.mp H
  obtain ⟨t280, A30, H⟩ := H
  replace H : (some t280) = some r := H
  have A3 := Aside0.mk A30
  clear A30
  obtain rfl := Option.some.inj H
  go_enter Try.func42, Try.ntmps42
  go_wp2_with (first | ((with_reducible refine gate_callee (f := 43) rfl ?_); refine goesL_ (some 9) rfl rfl Try.func43 (by kernel_rfl) rfl #[.int .u64 (Go.bits .xor .u64 a0 (IntKind.u64.wrap (a1 - 1)))] rfl (by (try simp only [List.map_toArray, List.map_cons, List.map_nil]); first | done | rfl | (simp only [List.length_drop, List.length_take]; rfl)) ?_; (with_reducible refine (bits_Len64.calls k (Go.bits .xor .u64 a0 (IntKind.u64.wrap (a1 - 1))) t280 _ A3.out).mono ?_); rintro e w' ⟨rfl, ⟨nd, rfl⟩⟩; refine ⟨_, rfl, ?_⟩))
  go_ret
  exact ⟨by first | rfl | (simp; done) | (simp [*]; done), by repeat (first | exact Drawn0.refl _ | apply Drawn0.step)⟩

/-! ### proof_decompInclProof: function 38 -/
def proof_decompInclProof.f (k : Nat) (a0 : Int) (a1 : Int) : Option (Int × Int) := (proof_innerProofSize.f k a0 a1).bind fun t281 => (if 0 ≤ (IntKind.u64.wrap (t281)) then ((bits_OnesCount64.f (shr .u64 a0 (IntKind.u64.wrap (t281)))).bind fun t282 => (some (t281, t282))) else (none))
theorem proof_decompInclProof.mono : ∀ a0 a1 k, LeO (proof_decompInclProof.f k a0 a1) (proof_decompInclProof.f (k + 1) a0 a1) := by
  intro a0 a1 k
  unfold proof_decompInclProof.f
  repeat' first
      | (with_reducible exact proof_innerProofSize.mono _ _ _)
      | (with_reducible exact LeO.refl _)
      | (with_reducible exact LeO.none _)
      | (with_reducible refine LeO.ite ?_ ?_)
      | (with_reducible refine LeO.bind ?_ (fun _ => ?_))
      | exact proof_innerProofSize.mono _ _ _
      | exact LeO.none _
      | refine LeO.ite ?_ ?_
      | refine LeO.bind ?_ (fun _ => ?_)
set_option maxHeartbeats 8000000 in
set_option maxRecDepth 100000 in
theorem proof_decompInclProof.calls (k : Nat) (a0 : Int) (a1 : Int) (r1 : Int) (r2 : Int) (w : World) (h : proof_decompInclProof.f k a0 a1 = some (r1, r2)) :
    Calls Try.prog 38 #[.int .u64 a0, .int .u64 a1] w fun e w' => e = .returned (.tuple #[.int .i64 r1, .int .i64 r2]) ∧ Drawn0 w w' := by
  have H : ((proof_innerProofSize.f k a0 a1).bind fun t281 => (if 0 ≤ (IntKind.u64.wrap (t281)) then ((bits_OnesCount64.f (shr .u64 a0 (IntKind.u64.wrap (t281)))).bind fun t282 => (some (t281, t282))) else (none))) = some (r1, r2) := h
  clear h
  replace H := Option.bind_eq_some_iff.mp H
  obtain ⟨t281, A30, H⟩ := H
  replace H : (if 0 ≤ (IntKind.u64.wrap (t281)) then ((bits_OnesCount64.f (shr .u64 a0 (IntKind.u64.wrap (t281)))).bind fun t282 => (some (t281, t282))) else (none)) = some (r1, r2) := H
  have A3 := Aside0.mk A30
  clear A30
  obtain ⟨ji4, hji4⟩ : ∃ j_ : Int, (IntKind.u64.wrap (t281)) = j_ := ⟨_, rfl⟩
  replace H : (if 0 ≤ (ji4) then ((bits_OnesCount64.f (shr .u64 a0 (ji4))).bind fun t282 => (some (t281, t282))) else (none)) = some (r1, r2) := by first | (rw [hji4] at H; exact H) | (simp only [hji4] at H ⊢; exact H)
  (try rw [hji4] at A3)
  by_cases c5 : 0 ≤ (ji4)
  · rw [if_pos c5] at H
    have c5b0 := eq_true c5
    have c5b1 : decide (0 ≤ (ji4)) = true := decide_eq_true c5
    clear c5
    obtain ⟨ji6, hji6⟩ : ∃ j_ : Int, (shr .u64 a0 (ji4)) = j_ := ⟨_, rfl⟩
    replace H : ((bits_OnesCount64.f (ji6)).bind fun t282 => (some (t281, t282))) = some (r1, r2) := by first | (rw [hji6] at H; exact H) | (simp only [hji6] at H ⊢; exact H)
    (try rw [hji6] at A3)
    have hji6_ : (a0 / 2 ^ min (ji4).toNat 64) = ji6 := hji6
    have hji6z : (ji4) ≤ 64 → (a0 / 2 ^ (ji4).toNat) = ji6 := shr_small hji6
    replace H := Option.bind_eq_some_iff.mp H
    obtain ⟨t282, A70, H⟩ := H
    replace H : (some (t281, t282)) = some (r1, r2) := H
    have A7 := Aside0.mk A70
    clear A70
    simp only [Option.some.injEq, Prod.mk.injEq] at H
    obtain ⟨rfl, rfl⟩ := H
    go_enter Try.func38, Try.ntmps38
    go_wp2_with (first | ((with_reducible refine gate_callee (f := 42) rfl ?_); refine goesL_ (some 10) rfl rfl Try.func42 (by kernel_rfl) rfl #[.int .u64 a0, .int .u64 a1] rfl (by (try simp only [List.map_toArray, List.map_cons, List.map_nil]); first | done | rfl | (simp only [List.length_drop, List.length_take]; rfl)) ?_; (with_reducible refine (proof_innerProofSize.calls k a0 a1 t281 _ A3.out).mono ?_); rintro e w' ⟨rfl, ⟨nd, rfl⟩⟩; refine ⟨_, rfl, ?_⟩) | ((with_reducible refine gate_callee (f := 41) rfl ?_); refine goesL_ (some 15) rfl rfl Try.func41 (by kernel_rfl) rfl #[.int .u64 ji6] rfl (by (try simp only [List.map_toArray, List.map_cons, List.map_nil]); first | done | (simp only [hji6]; rfl) | rfl | (simp only [List.length_drop, List.length_take]; rfl)) ?_; (with_reducible refine (bits_OnesCount64.calls ji6 t282 _ A7.out).mono ?_); rintro e w' ⟨rfl, ⟨nd, rfl⟩⟩; refine ⟨_, rfl, ?_⟩))
    go_ret2
    exact ⟨by first | rfl | (simp; done) | (simp only [← hji4, ← hji6] <;> (first | rfl | simp)) | (simp [*]; done), by repeat (first | exact Drawn0.refl _ | apply Drawn0.step)⟩
  · rw [if_neg c5] at H
    exact absurd H (by simp)

/-! ### laws_zzFits7: function 13 -/
def laws_zzFits7.f (k : Nat) (a0_0 : Int) (a0_1 : Int) (l0_2 : List (List Int)) : Option (Bool) := (laws_zzFits2.f k l0_2).bind fun t284 => (if t284 = true then (some true) else (some false))
theorem laws_zzFits7.mono : ∀ a0 a1 a2 k, LeO (laws_zzFits7.f k a0 a1 a2) (laws_zzFits7.f (k + 1) a0 a1 a2) := by
  intro a0 a1 a2 k
  unfold laws_zzFits7.f
  repeat' first
      | (with_reducible exact laws_zzFits2.mono _ _)
      | (with_reducible exact LeO.refl _)
      | (with_reducible exact LeO.none _)
      | (with_reducible refine LeO.ite ?_ ?_)
      | (with_reducible refine LeO.bind ?_ (fun _ => ?_))
      | exact laws_zzFits2.mono _ _
      | exact LeO.none _
      | refine LeO.ite ?_ ?_
      | refine LeO.bind ?_ (fun _ => ?_)
set_option maxHeartbeats 8000000 in
set_option maxRecDepth 100000 in
theorem laws_zzFits7.calls (k : Nat) (a0_0 : Int) (a0_1 : Int) (A0_2 : Option Addr) (c0_2 : Nat) (l0_2 : List (List Int)) (r : Bool) (w : World) (hr0_2 : Kd.C (Kd.slice 5 (Kd.int .u8)) w A0_2 l0_2.length l0_2) (hc0_2 : l0_2.length ≤ c0_2) (h : laws_zzFits7.f k a0_0 a0_1 l0_2 = some r) :
    Calls Try.prog 13 #[.agg #[.int .u64 a0_0, .int .u64 a0_1, .slice A0_2 l0_2.length c0_2]] w fun e w' => e = .returned (.bool r) ∧ Below w.heap.size w w' := by
  have hu34 := Try.underlying34
  have HR0_2 := Aside0.mk hr0_2
  have HC0_2 := Aside0.mk hc0_2
  clear hr0_2 hc0_2
  have HB := Aside0.mk (Below.refl w.heap.size w)
  have H : ((laws_zzFits2.f k l0_2).bind fun t284 => (if t284 = true then (some true) else (some false))) = some r := h
  clear h
  replace H := Option.bind_eq_some_iff.mp H
  obtain ⟨t284, A20, H⟩ := H
  replace H : (if t284 = true then (some true) else (some false)) = some r := H
  have A2 := Aside0.mk A20
  clear A20
  by_cases c3 : t284 = true
  · subst c3
    have H1 : (some true) = some r := by rw [if_pos rfl] at H; exact H
    clear H
    have H := H1
    clear H1
    obtain rfl := Option.some.inj H
    go_enter Try.func13, Try.ntmps13
    go_wp2_with (first | ((with_reducible refine gate_dst (N := 1) rfl ?_); refine box_event ?hg (N := 1) ?hd (cs := #[.int .u64 a0_0, .int .u64 a0_1, .slice A0_2 l0_2.length c0_2]) (t := 34) ?hr ?_; (case hd => rfl); (case hg => rfl); (case hr => first | (go_simp; done) | (go_simp; rfl)); intro gb283 hg w4 hbox hb; have n0_ := Aside0.mk (below_step (by repeat (first | (with_reducible first | exact HB.out | apply below_alloc | apply pw_below_drewN | apply below_drew1) | exact HB.out)) hb); have n1_ := Aside0.mk (hbox); have n2_ := Aside0.mk ((by rw [hg]; exact (below_size (by repeat (first | (with_reducible first | exact HB.out | apply below_alloc | apply pw_below_drewN | apply below_drew1) | exact HB.out))) : w.heap.size ≤ gb283)); have n3_ := Aside0.mk ((by rw [hg]; exact (below_size (by repeat (first | (with_reducible first | exact HB.out | apply below_alloc | apply pw_below_drewN | apply below_drew1) | exact HB.out))) : w.heap.size ≤ gb283)); clear HB; have HB := n0_; have BK283 := n1_; have GW283 := n2_; have GE283 := n3_; clear n0_ n1_ n2_ n3_; clear hb hbox hg; have hcz5_0 : w4.cell? ⟨gb283, 0, none⟩ = some (.int .u64 a0_0) := (blk_cell BK283.out 0).trans rfl; have hcz5_1 : w4.cell? ⟨gb283, 1, none⟩ = some (.int .u64 a0_1) := (blk_cell BK283.out 1).trans rfl; have hcz5_2 : w4.cell? ⟨gb283, 2, none⟩ = some (.slice A0_2 l0_2.length c0_2) := (blk_cell BK283.out 2).trans rfl; have hfz5_0 := blk_frozen BK283.out 0; have hfz5_1 := blk_frozen BK283.out 1; have hfz5_2 := blk_frozen BK283.out 2) | ((with_reducible refine gate_callee (f := 6) rfl ?_); refine goesL_ (some 5) rfl rfl Try.func6 (by kernel_rfl) rfl #[.slice A0_2 l0_2.length c0_2] rfl (by (try simp only [List.map_toArray, List.map_cons, List.map_nil]); first | done | rfl | (simp only [List.length_drop, List.length_take]; rfl)) ?_; (with_reducible refine (laws_zzFits2.calls k _ _ l0_2 true _ ?side1 ?side2 A2.out).mono ?_); (case side1 => repeat (first | exact (Kd.C_below HR0_2.out HB.out) | (with_reducible refine Kd.C_alloc ?_ _) | (with_reducible refine Kd.C_drewN ?_ _) | (with_reducible refine Kd.C_drew ?_))); (case side2 => exact HC0_2.out); rintro e w' ⟨rfl, ⟨nd, rfl⟩⟩; refine ⟨_, rfl, ?_⟩))
    go_ret
    exact ⟨by first | rfl | (simp [errW_none, errW_some] <;> rfl) | (simp [*, errW_none, errW_some] <;> rfl), by repeat (first | (with_reducible first | exact HB.out | apply below_alloc | apply pw_below_drewN | apply below_drew1 | refine below_set ?_ GE283.out) | exact HB.out)⟩
  · replace c3 := Bool.eq_false_iff.mpr c3
    subst c3
    have H1 : (some false) = some r := by rw [if_neg (show ¬ (false = true) by decide)] at H; exact H
    clear H
    have H := H1
    clear H1
    obtain rfl := Option.some.inj H
    go_enter Try.func13, Try.ntmps13
    go_wp2_with (first | ((with_reducible refine gate_dst (N := 1) rfl ?_); refine box_event ?hg (N := 1) ?hd (cs := #[.int .u64 a0_0, .int .u64 a0_1, .slice A0_2 l0_2.length c0_2]) (t := 34) ?hr ?_; (case hd => rfl); (case hg => rfl); (case hr => first | (go_simp; done) | (go_simp; rfl)); intro gb283 hg w6 hbox hb; have n0_ := Aside0.mk (below_step (by repeat (first | (with_reducible first | exact HB.out | apply below_alloc | apply pw_below_drewN | apply below_drew1) | exact HB.out)) hb); have n1_ := Aside0.mk (hbox); have n2_ := Aside0.mk ((by rw [hg]; exact (below_size (by repeat (first | (with_reducible first | exact HB.out | apply below_alloc | apply pw_below_drewN | apply below_drew1) | exact HB.out))) : w.heap.size ≤ gb283)); have n3_ := Aside0.mk ((by rw [hg]; exact (below_size (by repeat (first | (with_reducible first | exact HB.out | apply below_alloc | apply pw_below_drewN | apply below_drew1) | exact HB.out))) : w.heap.size ≤ gb283)); clear HB; have HB := n0_; have BK283 := n1_; have GW283 := n2_; have GE283 := n3_; clear n0_ n1_ n2_ n3_; clear hb hbox hg; have hcz7_0 : w6.cell? ⟨gb283, 0, none⟩ = some (.int .u64 a0_0) := (blk_cell BK283.out 0).trans rfl; have hcz7_1 : w6.cell? ⟨gb283, 1, none⟩ = some (.int .u64 a0_1) := (blk_cell BK283.out 1).trans rfl; have hcz7_2 : w6.cell? ⟨gb283, 2, none⟩ = some (.slice A0_2 l0_2.length c0_2) := (blk_cell BK283.out 2).trans rfl; have hfz7_0 := blk_frozen BK283.out 0; have hfz7_1 := blk_frozen BK283.out 1; have hfz7_2 := blk_frozen BK283.out 2) | ((with_reducible refine gate_callee (f := 6) rfl ?_); refine goesL_ (some 5) rfl rfl Try.func6 (by kernel_rfl) rfl #[.slice A0_2 l0_2.length c0_2] rfl (by (try simp only [List.map_toArray, List.map_cons, List.map_nil]); first | done | rfl | (simp only [List.length_drop, List.length_take]; rfl)) ?_; (with_reducible refine (laws_zzFits2.calls k _ _ l0_2 false _ ?side1 ?side2 A2.out).mono ?_); (case side1 => repeat (first | exact (Kd.C_below HR0_2.out HB.out) | (with_reducible refine Kd.C_alloc ?_ _) | (with_reducible refine Kd.C_drewN ?_ _) | (with_reducible refine Kd.C_drew ?_))); (case side2 => exact HC0_2.out); rintro e w' ⟨rfl, ⟨nd, rfl⟩⟩; refine ⟨_, rfl, ?_⟩))
    go_ret
    exact ⟨by first | rfl | (simp [errW_none, errW_some] <;> rfl) | (simp [*, errW_none, errW_some] <;> rfl), by repeat (first | (with_reducible first | exact HB.out | apply below_alloc | apply pw_below_drewN | apply below_drew1 | refine below_set ?_ GE283.out) | exact HB.out)⟩

/-! ### spec_Nodes: function 26 -/
mutual
def spec_Nodes.l0 : Nat → List (S77) → Int → Int → Option ((List (S77)))
  | 0, _, _, _ => none
  | k + 1, x3, x286000, x286001 => if x286000 < x286001 then (spec_Nodes.l1 k x3 0 x286000 x286001) else (some x3)
def spec_Nodes.l1 : Nat → List (S77) → Int → Int → Int → Option ((List (S77)))
  | 0, _, _, _, _ => none
  | k + 1, x3, x4, x286000, x286001 => if x4 < 63 then (if 0 ≤ x4 then (if (Go.bits .and .u64 (shr .u64 x286000 x4) 1) = 0 then (if 0 ≤ (IntKind.u64.wrap (x4 + 1)) then (if (shl .u64 1 (IntKind.u64.wrap (x4 + 1))) ≤ (IntKind.u64.wrap (x286001 - x286000)) then (spec_Nodes.l1 k x3 (IntKind.u64.wrap (x4 + 1)) x286000 x286001) else (if x3.length < 8796093022208 then (spec_Nodes.l0 k (x3 ++ [(⟨x4, shr .u64 x286000 x4⟩ : S77)]) (IntKind.u64.wrap (x286000 + (shl .u64 1 x4))) x286001) else (none))) else (none)) else (if x3.length < 8796093022208 then (spec_Nodes.l0 k (x3 ++ [(⟨x4, shr .u64 x286000 x4⟩ : S77)]) (IntKind.u64.wrap (x286000 + (shl .u64 1 x4))) x286001) else (none))) else (none)) else (if 0 ≤ x4 then (if x3.length < 8796093022208 then (spec_Nodes.l0 k (x3 ++ [(⟨x4, shr .u64 x286000 x4⟩ : S77)]) (IntKind.u64.wrap (x286000 + (shl .u64 1 x4))) x286001) else (none)) else (none))
end
def spec_Nodes.f (k : Nat) (a0_0 : Int) (a0_1 : Int) : Option ((List (S77))) := spec_Nodes.l0 k ([] : List (S77)) a0_0 a0_1
theorem spec_Nodes.mono_l : ∀ k, (∀ y0 y1 y2, LeO (spec_Nodes.l0 k y0 y1 y2) (spec_Nodes.l0 (k + 1) y0 y1 y2)) ∧ (∀ y0 y1 y2 y3, LeO (spec_Nodes.l1 k y0 y1 y2 y3) (spec_Nodes.l1 (k + 1) y0 y1 y2 y3))
  | 0 => ⟨fun _ _ _ r h => by simp [spec_Nodes.l0] at h, fun _ _ _ _ r h => by simp [spec_Nodes.l1] at h⟩
  | k + 1 => by
    obtain ⟨ih0, ih1⟩ := spec_Nodes.mono_l k
    refine ⟨?_, ?_⟩
    · intro y0 y1 y2
      unfold spec_Nodes.l0
      repeat' first
      | (with_reducible exact ih0 _ _ _)
      | (with_reducible exact ih1 _ _ _ _)
      | (with_reducible exact LeO.refl _)
      | (with_reducible exact LeO.none _)
      | (with_reducible refine LeO.ite ?_ ?_)
      | (with_reducible refine LeO.bind ?_ (fun _ => ?_))
      | exact ih0 _ _ _
      | exact ih1 _ _ _ _
      | exact LeO.none _
      | refine LeO.ite ?_ ?_
      | refine LeO.bind ?_ (fun _ => ?_)
    · intro y0 y1 y2 y3
      unfold spec_Nodes.l1
      repeat' first
      | (with_reducible exact ih0 _ _ _)
      | (with_reducible exact ih1 _ _ _ _)
      | (with_reducible exact LeO.refl _)
      | (with_reducible exact LeO.none _)
      | (with_reducible refine LeO.ite ?_ ?_)
      | (with_reducible refine LeO.bind ?_ (fun _ => ?_))
      | exact ih0 _ _ _
      | exact ih1 _ _ _ _
      | exact LeO.none _
      | refine LeO.ite ?_ ?_
      | refine LeO.bind ?_ (fun _ => ?_)
theorem spec_Nodes.mono : ∀ a0 a1 k, LeO (spec_Nodes.f k a0 a1) (spec_Nodes.f (k + 1) a0 a1) := by
  intro a0 a1 k
  obtain ⟨ih0, ih1⟩ := spec_Nodes.mono_l k
  unfold spec_Nodes.f
  repeat' first
      | (with_reducible exact ih0 _ _ _)
      | (with_reducible exact ih1 _ _ _ _)
      | (with_reducible exact LeO.refl _)
      | (with_reducible exact LeO.none _)
      | (with_reducible refine LeO.ite ?_ ?_)
      | (with_reducible refine LeO.bind ?_ (fun _ => ?_))
      | exact ih0 _ _ _
      | exact ih1 _ _ _ _
      | exact LeO.none _
      | refine LeO.ite ?_ ?_
      | refine LeO.bind ?_ (fun _ => ?_)
set_option maxHeartbeats 8000000 in
set_option maxRecDepth 100000 in
theorem spec_Nodes.calls (k : Nat) (a0_0 : Int) (a0_1 : Int) (r : List (S77)) (w : World) (h : spec_Nodes.f k a0_0 a0_1 = some r) :
    Calls Try.prog 26 #[.agg #[.int .u64 a0_0, .int .u64 a0_1]] w fun e w' => ∃ v0_ : Value, e = .returned (v0_) ∧ Kd.R k77 77 w' w.heap.size (fun _ => True) v0_ r ∧ Below w.heap.size w w' := by
  have hu61 := Try.underlying61
  have hu77 := Try.underlying77
  have HB := Aside0.mk (Below.refl w.heap.size w)
  have H : (spec_Nodes.l0 k ([] : List (S77)) a0_0 a0_1) = some r := h
  clear h
  have H' := Aside0.mk H
  clear H
  go_enter Try.func26, Try.ntmps26
  go_wp2_with (first | ((with_reducible refine gate_dst (N := 1) rfl ?_); refine box_event ?hg (N := 1) ?hd (cs := #[.int .u64 a0_0, .int .u64 a0_1]) (t := 61) ?hr ?_; (case hd => rfl); (case hg => rfl); (case hr => first | (go_simp; done) | (go_simp; rfl)); intro gb285 hg w2 hbox hb; have n0_ := Aside0.mk (below_step (by repeat (first | (with_reducible first | exact HB.out | apply below_alloc | apply pw_below_drewN | apply below_drew1) | exact HB.out)) hb); have n1_ := Aside0.mk (hbox); have n2_ := Aside0.mk ((by rw [hg]; exact (below_size (by repeat (first | (with_reducible first | exact HB.out | apply below_alloc | apply pw_below_drewN | apply below_drew1) | exact HB.out))) : w.heap.size ≤ gb285)); have n3_ := Aside0.mk ((by rw [hg]; exact (below_size (by repeat (first | (with_reducible first | exact HB.out | apply below_alloc | apply pw_below_drewN | apply below_drew1) | exact HB.out))) : w.heap.size ≤ gb285)); clear HB; have HB := n0_; have BK285 := n1_; have GW285 := n2_; have GE285 := n3_; clear n0_ n1_ n2_ n3_; clear hb hbox hg))
  try simp only [Act.put, List.setIfInBounds_toArray, List.set_cons_zero, List.set_cons_succ]
  go_loopg [3] k (fun kq v3 w' => ∃ (x3_1 : List (S77)) (x286000_1 : Int), Aside0 (spec_Nodes.l0 kq x3_1 x286000_1 a0_1 = some r) ∧ Aside0 (kq ≤ k) ∧ Aside0 (Kd.R k77 77 w' w.heap.size (fun _ => True) v3 x3_1) ∧ Aside0 (w'.heap[gb285]? = some (.cells #[.int .u64 x286000_1, .int .u64 a0_1] 61 (0, 0))) ∧ Aside0 (Below w.heap.size w w'))
  case atStart => exact ⟨(([] : List (S77))), (a0_0), H', ⟨Nat.le_refl _⟩, ⟨by first | exact Kd.R_nil _ _ _ _ _ | exact Kd.N_nil _ _ _ _ _ | exact Kd.V_nil _ _ _ _ _ | exact Kd.Q_nil _ _ _ _ _ | exact Kd.S_nil _ _ _ _ _⟩, ⟨by (with_reducible repeat (first | refine blk_drewN ?_ _ | refine blk_drew ?_ | refine blk_alloc ?_ _)); exact BK285.out⟩, ⟨by repeat (first | (with_reducible first | exact HB.out | apply below_alloc | apply pw_below_drewN | apply below_drew1 | refine below_set ?_ GE285.out) | exact HB.out)⟩⟩
  case round =>
    clear H'
    try clear c2
    try clear p2
    obtain ⟨x3_1, x286000_1, HA, HK1, HO_3, BK285, HB⟩ := hrel
    cases gk with
    | zero => exact absurd HA.out (by simp [spec_Nodes.l0])
    | succ k1 =>
      have H := HA.out
      clear HA
      simp only [spec_Nodes.l0] at H
      by_cases c3 : x286000_1 < a0_1
      · rw [if_pos c3] at H
        have c3b0 : decide (x286000_1 < a0_1) = true := decide_eq_true c3
        clear c3
        have H' := Aside0.mk H
        clear H
        have hcz4_0 : wr.cell? ⟨gb285, 0, none⟩ = some (.int .u64 x286000_1) := (blk_cell BK285.out 0).trans rfl
        have hcz4_1 : wr.cell? ⟨gb285, 1, none⟩ = some (.int .u64 a0_1) := (blk_cell BK285.out 1).trans rfl
        have hfz4_0 := blk_frozen BK285.out 0
        have hfz4_1 := blk_frozen BK285.out 1
        go_wp2
        try simp only [Act.put, List.setIfInBounds_toArray, List.set_cons_zero, List.set_cons_succ]
        go_loopg [4] k1 (fun kq v4 w' => ∃ (x4_2 : Int), v4 = .int .u64 x4_2 ∧ Aside0 (spec_Nodes.l1 kq x3_1 x4_2 x286000_1 a0_1 = some r) ∧ Aside0 (kq ≤ k1) ∧ Aside0 (Kd.R k77 77 w' w.heap.size (fun _ => True) u3 x3_1) ∧ Aside0 (w'.heap[gb285]? = some (.cells #[.int .u64 x286000_1, .int .u64 a0_1] 61 (0, 0))) ∧ Aside0 (Below w.heap.size w w'))
        case atStart => exact ⟨(0), (by first | rfl | (simp; done) | (simp [*]; done)), H', ⟨Nat.le_refl _⟩, ⟨by (with_reducible repeat (first | apply Kd.R_alloc | apply Kd.R_drewN | apply Kd.R_drew)); exact HO_3.out⟩, ⟨by (with_reducible repeat (first | refine blk_drewN ?_ _ | refine blk_drew ?_ | refine blk_alloc ?_ _)); exact BK285.out⟩, ⟨by repeat (first | (with_reducible first | exact HB.out | apply below_alloc | apply pw_below_drewN | apply below_drew1 | refine below_set ?_ GE285.out) | exact HB.out)⟩⟩
        case round =>
          clear H'
          try clear c2
          try clear p2
          try clear c3
          try clear c3b0
          try clear hcz4_0
          try clear hcz4_1
          try clear hfz4_0
          try clear hfz4_1
          try clear p2
          obtain ⟨x4_2, rfl, HA, HK2, HO_3, BK285, HB⟩ := hrel
          cases gk with
          | zero => exact absurd HA.out (by simp [spec_Nodes.l1])
          | succ k2 =>
            have H := HA.out
            clear HA
            simp only [spec_Nodes.l1] at H
            by_cases c5 : x4_2 < 63
            · rw [if_pos c5] at H
              have c5b0 : decide (x4_2 < 63) = true := decide_eq_true c5
              clear c5
              by_cases c6 : 0 ≤ x4_2
              · rw [if_pos c6] at H
                have c6b0 := eq_true c6
                have c6b1 : decide (0 ≤ x4_2) = true := decide_eq_true c6
                clear c6
                obtain ⟨ji7, hji7⟩ : ∃ j_ : Int, (shr .u64 x286000_1 x4_2) = j_ := ⟨_, rfl⟩
                replace H : (if (Go.bits .and .u64 (ji7) 1) = 0 then (if 0 ≤ (IntKind.u64.wrap (x4_2 + 1)) then (if (shl .u64 1 (IntKind.u64.wrap (x4_2 + 1))) ≤ (IntKind.u64.wrap (a0_1 - x286000_1)) then (spec_Nodes.l1 k2 x3_1 (IntKind.u64.wrap (x4_2 + 1)) x286000_1 a0_1) else (if x3_1.length < 8796093022208 then (spec_Nodes.l0 k2 (x3_1 ++ [(⟨x4_2, ji7⟩ : S77)]) (IntKind.u64.wrap (x286000_1 + (shl .u64 1 x4_2))) a0_1) else (none))) else (none)) else (if x3_1.length < 8796093022208 then (spec_Nodes.l0 k2 (x3_1 ++ [(⟨x4_2, ji7⟩ : S77)]) (IntKind.u64.wrap (x286000_1 + (shl .u64 1 x4_2))) a0_1) else (none))) = some r := by first | (rw [hji7] at H; exact H) | (simp only [hji7] at H ⊢; exact H)
                have hji7_ : (x286000_1 / 2 ^ min x4_2.toNat 64) = ji7 := hji7
                have hji7z : x4_2 ≤ 64 → (x286000_1 / 2 ^ x4_2.toNat) = ji7 := shr_small hji7
                by_cases c8 : (Go.bits .and .u64 (ji7) 1) = 0
                · rw [if_pos c8] at H
                  have c8b0 : ((Go.bits .and .u64 (ji7) 1) == 0) = true := beq_iff_eq.mpr c8
                  have c8b1 : ((Go.bits .and .u64 (ji7) 1) != 0) = false := bne_eq_false_iff_eq.mpr c8
                  clear c8
                  obtain ⟨ji9, hji9⟩ : ∃ j_ : Int, (IntKind.u64.wrap (x4_2 + 1)) = j_ := ⟨_, rfl⟩
                  replace H : (if 0 ≤ (ji9) then (if (shl .u64 1 (ji9)) ≤ (IntKind.u64.wrap (a0_1 - x286000_1)) then (spec_Nodes.l1 k2 x3_1 ji9 x286000_1 a0_1) else (if x3_1.length < 8796093022208 then (spec_Nodes.l0 k2 (x3_1 ++ [(⟨x4_2, ji7⟩ : S77)]) (IntKind.u64.wrap (x286000_1 + (shl .u64 1 x4_2))) a0_1) else (none))) else (none)) = some r := by first | (rw [hji9] at H; exact H) | (simp only [hji9] at H ⊢; exact H)
                  by_cases c10 : 0 ≤ (ji9)
                  · rw [if_pos c10] at H
                    have c10b0 := eq_true c10
                    have c10b1 : decide (0 ≤ (ji9)) = true := decide_eq_true c10
                    clear c10
                    obtain ⟨ji11, hji11⟩ : ∃ j_ : Int, (shl .u64 1 (ji9)) = j_ := ⟨_, rfl⟩
                    replace H : (if (ji11) ≤ (IntKind.u64.wrap (a0_1 - x286000_1)) then (spec_Nodes.l1 k2 x3_1 ji9 x286000_1 a0_1) else (if x3_1.length < 8796093022208 then (spec_Nodes.l0 k2 (x3_1 ++ [(⟨x4_2, ji7⟩ : S77)]) (IntKind.u64.wrap (x286000_1 + (shl .u64 1 x4_2))) a0_1) else (none))) = some r := by first | (rw [hji11] at H; exact H) | (simp only [hji11] at H ⊢; exact H)
                    have hji11_ : (IntKind.u64.wrap (1 * 2 ^ min (ji9).toNat 64)) = ji11 := hji11
                    have hji11z : (ji9) ≤ 64 → (IntKind.u64.wrap (1 * 2 ^ (ji9).toNat)) = ji11 := shl_small hji11
                    have hji11u : (IntKind.u64.wrap (2 ^ min (ji9).toNat 64)) = ji11 := by have h_ := hji11_; rw [Int.one_mul] at h_; exact h_
                    have hji11v : (ji9) ≤ 64 → (IntKind.u64.wrap (2 ^ (ji9).toNat)) = ji11 := fun hle_ => by have h_ := hji11z hle_; rw [Int.one_mul] at h_; exact h_
                    by_cases c12 : (ji11) ≤ (IntKind.u64.wrap (a0_1 - x286000_1))
                    · rw [if_pos c12] at H
                      have c12b0 : decide ((ji11) ≤ (IntKind.u64.wrap (a0_1 - x286000_1))) = true := decide_eq_true c12
                      clear c12
                      have H' := Aside0.mk H
                      clear H
                      have hcz13_0 : wr.cell? ⟨gb285, 0, none⟩ = some (.int .u64 x286000_1) := (blk_cell BK285.out 0).trans rfl
                      have hcz13_1 : wr.cell? ⟨gb285, 1, none⟩ = some (.int .u64 a0_1) := (blk_cell BK285.out 1).trans rfl
                      have hfz13_0 := blk_frozen BK285.out 0
                      have hfz13_1 := blk_frozen BK285.out 1
                      go_wp2
                      go_roundg k2
                      case measure => have := HK1.out; have := HK2.out; omega
                      case rel => exact ⟨(ji9), (by first | rfl | (simp; done) | (simp only [← hji9] <;> (first | rfl | simp)) | (simp [*]; done)), H', ⟨by have := HK1.out; have := HK2.out; omega⟩, ⟨by (with_reducible repeat (first | apply Kd.R_alloc | apply Kd.R_drewN | apply Kd.R_drew)); exact HO_3.out⟩, ⟨by (with_reducible repeat (first | refine blk_drewN ?_ _ | refine blk_drew ?_ | refine blk_alloc ?_ _)); exact BK285.out⟩, ⟨by repeat (first | (with_reducible first | exact HB.out | apply below_alloc | apply pw_below_drewN | apply below_drew1 | refine below_set ?_ GE285.out) | exact HB.out)⟩⟩
                    · rw [if_neg c12] at H
                      have c12b0 : decide ((ji11) ≤ (IntKind.u64.wrap (a0_1 - x286000_1))) = false := decide_eq_false c12
                      clear c12
                      have c14b0 := eq_true (of_decide_eq_true (by first | (with_reducible assumption) | assumption) : 0 ≤ x4_2)
                      by_cases c15 : x3_1.length < 8796093022208
                      · rw [if_pos c15] at H
                        have LMc15 := Aside0.mk c15
                        clear c15
                        obtain ⟨y286, hy286⟩ : ∃ y_ : List (S77), y_ = (x3_1 ++ [(⟨x4_2, ji7⟩ : S77)]) := ⟨_, rfl⟩
                        replace H : (spec_Nodes.l0 k2 y286 (IntKind.u64.wrap (x286000_1 + (shl .u64 1 x4_2))) a0_1) = some r := by first | (rw [hy286]; with_reducible exact H) | (have H2_ := (Option.bind_some _ _).symm.trans H; rw [hy286]; with_reducible exact H2_) | (have H2_ := (Option.bind_some _ _).symm.trans H; with_reducible exact H2_) | with_reducible exact H | (rw [hy286]; exact H) | exact H
                        have Ny286 := Aside0.mk hy286
                        clear hy286
                        have c16b0 := eq_true (of_decide_eq_true (by first | (with_reducible assumption) | assumption) : 0 ≤ x4_2)
                        obtain ⟨ji17, hji17⟩ : ∃ j_ : Int, (shl .u64 1 x4_2) = j_ := ⟨_, rfl⟩
                        replace H : (spec_Nodes.l0 k2 y286 (IntKind.u64.wrap (x286000_1 + (ji17))) a0_1) = some r := by first | (rw [hji17] at H; exact H) | (simp only [hji17] at H ⊢; exact H)
                        have hji17_ : (IntKind.u64.wrap (1 * 2 ^ min x4_2.toNat 64)) = ji17 := hji17
                        have hji17z : x4_2 ≤ 64 → (IntKind.u64.wrap (1 * 2 ^ x4_2.toNat)) = ji17 := shl_small hji17
                        have hji17u : (IntKind.u64.wrap (2 ^ min x4_2.toNat 64)) = ji17 := by have h_ := hji17_; rw [Int.one_mul] at h_; exact h_
                        have hji17v : x4_2 ≤ 64 → (IntKind.u64.wrap (2 ^ x4_2.toNat)) = ji17 := fun hle_ => by have h_ := hji17z hle_; rw [Int.one_mul] at h_; exact h_
                        have H' := Aside0.mk H
                        clear H
                        have hcz18_0 : wr.cell? ⟨gb285, 0, none⟩ = some (.int .u64 x286000_1) := (blk_cell BK285.out 0).trans rfl
                        have hcz18_1 : wr.cell? ⟨gb285, 1, none⟩ = some (.int .u64 a0_1) := (blk_cell BK285.out 1).trans rfl
                        have hfz18_0 := blk_frozen BK285.out 0
                        have hfz18_1 := blk_frozen BK285.out 1
                        go_wp2_with (first | ((with_reducible refine gate_builtin (b := .append) (xs := #[.tmp 33, .tmp 40]) rfl ?_); at_builtin; refine Kd.R_append k77 (w0 := w) w.heap.size rfl (.tmp 33) (.tmp 40) 58 77 (.agg #[(.int .u64 0), (.int .u64 0)]) 16 rfl Try.underlying58 info77 rfl (by decide) (by omega) u3 x3_1 (⟨x4_2, ji7⟩ : S77) [.int .u64 x4_2, .int .u64 ji7] (fun _ => True) (fun _ => False) rfl rfl ?aP (fun _ hk => hk.elim) ?aF ?aO ?aB ?aS ?aL ?_; (case aP => exact k77_mkM _ _ _ (⟨x4_2, ji7⟩ : S77)); (case aB => exact (by repeat (first | (with_reducible first | exact HB.out | apply below_alloc | apply pw_below_drewN | apply below_drew1 | refine below_set ?_ GE285.out) | exact HB.out))); (case aF => exact (fun _ _ => trivial)); (case aO => exact (by (with_reducible repeat (first | apply Kd.R_alloc | apply Kd.R_drewN | apply Kd.R_drew)); exact HO_3.out)); (case aS => exact (below_size (by repeat (first | (with_reducible first | exact HB.out | apply below_alloc | apply pw_below_drewN | apply below_drew1 | refine below_set ?_ GE285.out) | exact HB.out)))); (case aL => have := LMc15.out; omega); intro v287 w19 ho hb hg hat; rw [← Ny286.out] at ho; have n0_ := Aside0.mk (blk_grown (g := gb285) (o := .cells #[.int .u64 x286000_1, .int .u64 a0_1] 61 (0, 0)) (by (with_reducible repeat (first | refine blk_drewN ?_ _ | refine blk_drew ?_ | refine blk_alloc ?_ _)); exact BK285.out) hg (Kd.R_ne HO_3.out BK285.out (by decide))); have n1_ := Aside0.mk (hb); have n2_ := Aside0.mk (ho); clear BK285; clear HB; clear HO_3; have BK285 := n0_; have HB := n1_; have HO288 := n2_; clear n0_ n1_ n2_; clear ho hb hg hat; have hcz20_0 : w19.cell? ⟨gb285, 0, none⟩ = some (.int .u64 x286000_1) := (blk_cell BK285.out 0).trans rfl; have hcz20_1 : w19.cell? ⟨gb285, 1, none⟩ = some (.int .u64 a0_1) := (blk_cell BK285.out 1).trans rfl; have hfz20_0 := blk_frozen BK285.out 0; have hfz20_1 := blk_frozen BK285.out 1))
                        go_roundg k2
                        case measure => have := HK1.out; have := HK2.out; omega
                        case rel => exact ⟨(y286), (IntKind.u64.wrap (x286000_1 + (ji17))), H', ⟨by have := HK1.out; have := HK2.out; omega⟩, ⟨by (with_reducible repeat (first | apply Kd.R_alloc | apply Kd.R_drewN | apply Kd.R_drew)); exact Kd.R_mono (Kd.R_far (p := ⟨gb285, 0, none⟩) (Kd.R_types HO288.out BK285.out (by decide)) (fun _ hk => hk.2) (.int .u64 (IntKind.u64.wrap (x286000_1 + (ji17))))) (fun _ hk => trivial)⟩, ⟨by (with_reducible repeat (first | refine blk_drewN ?_ _ | refine blk_drew ?_ | refine blk_alloc ?_ _)); refine blk_put (cs := #[.int .u64 x286000_1, .int .u64 a0_1]) ?_ 0 _ rfl; (with_reducible repeat (first | refine blk_drewN ?_ _ | refine blk_drew ?_ | refine blk_alloc ?_ _)); exact BK285.out⟩, ⟨by repeat (first | (with_reducible first | exact HB.out | apply below_alloc | apply pw_below_drewN | apply below_drew1 | refine below_set ?_ GE285.out) | exact HB.out)⟩⟩
                      · rw [if_neg c15] at H
                        exact absurd H (by simp)
                  · rw [if_neg c10] at H
                    exact absurd H (by simp)
                · rw [if_neg c8] at H
                  have c8b0 : ((Go.bits .and .u64 (ji7) 1) == 0) = false := beq_eq_false_iff_ne.mpr c8
                  have c8b1 : ((Go.bits .and .u64 (ji7) 1) != 0) = true := bne_iff_ne.mpr c8
                  have c21b0 := eq_true (of_decide_eq_true (by first | (with_reducible assumption) | assumption) : 0 ≤ x4_2)
                  by_cases c22 : x3_1.length < 8796093022208
                  · rw [if_pos c22] at H
                    have LMc22 := Aside0.mk c22
                    clear c22
                    obtain ⟨y289, hy289⟩ : ∃ y_ : List (S77), y_ = (x3_1 ++ [(⟨x4_2, ji7⟩ : S77)]) := ⟨_, rfl⟩
                    replace H : (spec_Nodes.l0 k2 y289 (IntKind.u64.wrap (x286000_1 + (shl .u64 1 x4_2))) a0_1) = some r := by first | (rw [hy289]; with_reducible exact H) | (have H2_ := (Option.bind_some _ _).symm.trans H; rw [hy289]; with_reducible exact H2_) | (have H2_ := (Option.bind_some _ _).symm.trans H; with_reducible exact H2_) | with_reducible exact H | (rw [hy289]; exact H) | exact H
                    have Ny289 := Aside0.mk hy289
                    clear hy289
                    have c23b0 := eq_true (of_decide_eq_true (by first | (with_reducible assumption) | assumption) : 0 ≤ x4_2)
                    obtain ⟨ji24, hji24⟩ : ∃ j_ : Int, (shl .u64 1 x4_2) = j_ := ⟨_, rfl⟩
                    replace H : (spec_Nodes.l0 k2 y289 (IntKind.u64.wrap (x286000_1 + (ji24))) a0_1) = some r := by first | (rw [hji24] at H; exact H) | (simp only [hji24] at H ⊢; exact H)
                    have hji24_ : (IntKind.u64.wrap (1 * 2 ^ min x4_2.toNat 64)) = ji24 := hji24
                    have hji24z : x4_2 ≤ 64 → (IntKind.u64.wrap (1 * 2 ^ x4_2.toNat)) = ji24 := shl_small hji24
                    have hji24u : (IntKind.u64.wrap (2 ^ min x4_2.toNat 64)) = ji24 := by have h_ := hji24_; rw [Int.one_mul] at h_; exact h_
                    have hji24v : x4_2 ≤ 64 → (IntKind.u64.wrap (2 ^ x4_2.toNat)) = ji24 := fun hle_ => by have h_ := hji24z hle_; rw [Int.one_mul] at h_; exact h_
                    have H' := Aside0.mk H
                    clear H
                    have hcz25_0 : wr.cell? ⟨gb285, 0, none⟩ = some (.int .u64 x286000_1) := (blk_cell BK285.out 0).trans rfl
                    have hcz25_1 : wr.cell? ⟨gb285, 1, none⟩ = some (.int .u64 a0_1) := (blk_cell BK285.out 1).trans rfl
                    have hfz25_0 := blk_frozen BK285.out 0
                    have hfz25_1 := blk_frozen BK285.out 1
                    go_wp2_with (first | ((with_reducible refine gate_builtin (b := .append) (xs := #[.tmp 33, .tmp 40]) rfl ?_); at_builtin; refine Kd.R_append k77 (w0 := w) w.heap.size rfl (.tmp 33) (.tmp 40) 58 77 (.agg #[(.int .u64 0), (.int .u64 0)]) 16 rfl Try.underlying58 info77 rfl (by decide) (by omega) u3 x3_1 (⟨x4_2, ji7⟩ : S77) [.int .u64 x4_2, .int .u64 ji7] (fun _ => True) (fun _ => False) rfl rfl ?aP (fun _ hk => hk.elim) ?aF ?aO ?aB ?aS ?aL ?_; (case aP => exact k77_mkM _ _ _ (⟨x4_2, ji7⟩ : S77)); (case aB => exact (by repeat (first | (with_reducible first | exact HB.out | apply below_alloc | apply pw_below_drewN | apply below_drew1 | refine below_set ?_ GE285.out) | exact HB.out))); (case aF => exact (fun _ _ => trivial)); (case aO => exact (by (with_reducible repeat (first | apply Kd.R_alloc | apply Kd.R_drewN | apply Kd.R_drew)); exact HO_3.out)); (case aS => exact (below_size (by repeat (first | (with_reducible first | exact HB.out | apply below_alloc | apply pw_below_drewN | apply below_drew1 | refine below_set ?_ GE285.out) | exact HB.out)))); (case aL => have := LMc22.out; omega); intro v290 w26 ho hb hg hat; rw [← Ny289.out] at ho; have n0_ := Aside0.mk (blk_grown (g := gb285) (o := .cells #[.int .u64 x286000_1, .int .u64 a0_1] 61 (0, 0)) (by (with_reducible repeat (first | refine blk_drewN ?_ _ | refine blk_drew ?_ | refine blk_alloc ?_ _)); exact BK285.out) hg (Kd.R_ne HO_3.out BK285.out (by decide))); have n1_ := Aside0.mk (hb); have n2_ := Aside0.mk (ho); clear BK285; clear HB; clear HO_3; have BK285 := n0_; have HB := n1_; have HO291 := n2_; clear n0_ n1_ n2_; clear ho hb hg hat; have hcz27_0 : w26.cell? ⟨gb285, 0, none⟩ = some (.int .u64 x286000_1) := (blk_cell BK285.out 0).trans rfl; have hcz27_1 : w26.cell? ⟨gb285, 1, none⟩ = some (.int .u64 a0_1) := (blk_cell BK285.out 1).trans rfl; have hfz27_0 := blk_frozen BK285.out 0; have hfz27_1 := blk_frozen BK285.out 1))
                    go_roundg k2
                    case measure => have := HK1.out; have := HK2.out; omega
                    case rel => exact ⟨(y289), (IntKind.u64.wrap (x286000_1 + (ji24))), H', ⟨by have := HK1.out; have := HK2.out; omega⟩, ⟨by (with_reducible repeat (first | apply Kd.R_alloc | apply Kd.R_drewN | apply Kd.R_drew)); exact Kd.R_mono (Kd.R_far (p := ⟨gb285, 0, none⟩) (Kd.R_types HO291.out BK285.out (by decide)) (fun _ hk => hk.2) (.int .u64 (IntKind.u64.wrap (x286000_1 + (ji24))))) (fun _ hk => trivial)⟩, ⟨by (with_reducible repeat (first | refine blk_drewN ?_ _ | refine blk_drew ?_ | refine blk_alloc ?_ _)); refine blk_put (cs := #[.int .u64 x286000_1, .int .u64 a0_1]) ?_ 0 _ rfl; (with_reducible repeat (first | refine blk_drewN ?_ _ | refine blk_drew ?_ | refine blk_alloc ?_ _)); exact BK285.out⟩, ⟨by repeat (first | (with_reducible first | exact HB.out | apply below_alloc | apply pw_below_drewN | apply below_drew1 | refine below_set ?_ GE285.out) | exact HB.out)⟩⟩
                  · rw [if_neg c22] at H
                    exact absurd H (by simp)
              · rw [if_neg c6] at H
                exact absurd H (by simp)
            · rw [if_neg c5] at H
              have c5b0 : decide (x4_2 < 63) = false := decide_eq_false c5
              clear c5
              by_cases c28 : 0 ≤ x4_2
              · rw [if_pos c28] at H
                have c28b0 := eq_true c28
                have c28b1 : decide (0 ≤ x4_2) = true := decide_eq_true c28
                clear c28
                obtain ⟨ji29, hji29⟩ : ∃ j_ : Int, (shr .u64 x286000_1 x4_2) = j_ := ⟨_, rfl⟩
                replace H : (if x3_1.length < 8796093022208 then (spec_Nodes.l0 k2 (x3_1 ++ [(⟨x4_2, ji29⟩ : S77)]) (IntKind.u64.wrap (x286000_1 + (shl .u64 1 x4_2))) a0_1) else (none)) = some r := by first | (rw [hji29] at H; exact H) | (simp only [hji29] at H ⊢; exact H)
                have hji29_ : (x286000_1 / 2 ^ min x4_2.toNat 64) = ji29 := hji29
                have hji29z : x4_2 ≤ 64 → (x286000_1 / 2 ^ x4_2.toNat) = ji29 := shr_small hji29
                by_cases c30 : x3_1.length < 8796093022208
                · rw [if_pos c30] at H
                  have LMc30 := Aside0.mk c30
                  clear c30
                  obtain ⟨y292, hy292⟩ : ∃ y_ : List (S77), y_ = (x3_1 ++ [(⟨x4_2, ji29⟩ : S77)]) := ⟨_, rfl⟩
                  replace H : (spec_Nodes.l0 k2 y292 (IntKind.u64.wrap (x286000_1 + (shl .u64 1 x4_2))) a0_1) = some r := by first | (rw [hy292]; with_reducible exact H) | (have H2_ := (Option.bind_some _ _).symm.trans H; rw [hy292]; with_reducible exact H2_) | (have H2_ := (Option.bind_some _ _).symm.trans H; with_reducible exact H2_) | with_reducible exact H | (rw [hy292]; exact H) | exact H
                  have Ny292 := Aside0.mk hy292
                  clear hy292
                  have c31b0 := eq_true (of_decide_eq_true (by first | (with_reducible assumption) | assumption) : 0 ≤ x4_2)
                  obtain ⟨ji32, hji32⟩ : ∃ j_ : Int, (shl .u64 1 x4_2) = j_ := ⟨_, rfl⟩
                  replace H : (spec_Nodes.l0 k2 y292 (IntKind.u64.wrap (x286000_1 + (ji32))) a0_1) = some r := by first | (rw [hji32] at H; exact H) | (simp only [hji32] at H ⊢; exact H)
                  have hji32_ : (IntKind.u64.wrap (1 * 2 ^ min x4_2.toNat 64)) = ji32 := hji32
                  have hji32z : x4_2 ≤ 64 → (IntKind.u64.wrap (1 * 2 ^ x4_2.toNat)) = ji32 := shl_small hji32
                  have hji32u : (IntKind.u64.wrap (2 ^ min x4_2.toNat 64)) = ji32 := by have h_ := hji32_; rw [Int.one_mul] at h_; exact h_
                  have hji32v : x4_2 ≤ 64 → (IntKind.u64.wrap (2 ^ x4_2.toNat)) = ji32 := fun hle_ => by have h_ := hji32z hle_; rw [Int.one_mul] at h_; exact h_
                  have H' := Aside0.mk H
                  clear H
                  have hcz33_0 : wr.cell? ⟨gb285, 0, none⟩ = some (.int .u64 x286000_1) := (blk_cell BK285.out 0).trans rfl
                  have hcz33_1 : wr.cell? ⟨gb285, 1, none⟩ = some (.int .u64 a0_1) := (blk_cell BK285.out 1).trans rfl
                  have hfz33_0 := blk_frozen BK285.out 0
                  have hfz33_1 := blk_frozen BK285.out 1
                  go_wp2_with (first | ((with_reducible refine gate_builtin (b := .append) (xs := #[.tmp 33, .tmp 40]) rfl ?_); at_builtin; refine Kd.R_append k77 (w0 := w) w.heap.size rfl (.tmp 33) (.tmp 40) 58 77 (.agg #[(.int .u64 0), (.int .u64 0)]) 16 rfl Try.underlying58 info77 rfl (by decide) (by omega) u3 x3_1 (⟨x4_2, ji29⟩ : S77) [.int .u64 x4_2, .int .u64 ji29] (fun _ => True) (fun _ => False) rfl rfl ?aP (fun _ hk => hk.elim) ?aF ?aO ?aB ?aS ?aL ?_; (case aP => exact k77_mkM _ _ _ (⟨x4_2, ji29⟩ : S77)); (case aB => exact (by repeat (first | (with_reducible first | exact HB.out | apply below_alloc | apply pw_below_drewN | apply below_drew1 | refine below_set ?_ GE285.out) | exact HB.out))); (case aF => exact (fun _ _ => trivial)); (case aO => exact (by (with_reducible repeat (first | apply Kd.R_alloc | apply Kd.R_drewN | apply Kd.R_drew)); exact HO_3.out)); (case aS => exact (below_size (by repeat (first | (with_reducible first | exact HB.out | apply below_alloc | apply pw_below_drewN | apply below_drew1 | refine below_set ?_ GE285.out) | exact HB.out)))); (case aL => have := LMc30.out; omega); intro v293 w34 ho hb hg hat; rw [← Ny292.out] at ho; have n0_ := Aside0.mk (blk_grown (g := gb285) (o := .cells #[.int .u64 x286000_1, .int .u64 a0_1] 61 (0, 0)) (by (with_reducible repeat (first | refine blk_drewN ?_ _ | refine blk_drew ?_ | refine blk_alloc ?_ _)); exact BK285.out) hg (Kd.R_ne HO_3.out BK285.out (by decide))); have n1_ := Aside0.mk (hb); have n2_ := Aside0.mk (ho); clear BK285; clear HB; clear HO_3; have BK285 := n0_; have HB := n1_; have HO294 := n2_; clear n0_ n1_ n2_; clear ho hb hg hat; have hcz35_0 : w34.cell? ⟨gb285, 0, none⟩ = some (.int .u64 x286000_1) := (blk_cell BK285.out 0).trans rfl; have hcz35_1 : w34.cell? ⟨gb285, 1, none⟩ = some (.int .u64 a0_1) := (blk_cell BK285.out 1).trans rfl; have hfz35_0 := blk_frozen BK285.out 0; have hfz35_1 := blk_frozen BK285.out 1))
                  go_roundg k2
                  case measure => have := HK1.out; have := HK2.out; omega
                  case rel => exact ⟨(y292), (IntKind.u64.wrap (x286000_1 + (ji32))), H', ⟨by have := HK1.out; have := HK2.out; omega⟩, ⟨by (with_reducible repeat (first | apply Kd.R_alloc | apply Kd.R_drewN | apply Kd.R_drew)); exact Kd.R_mono (Kd.R_far (p := ⟨gb285, 0, none⟩) (Kd.R_types HO294.out BK285.out (by decide)) (fun _ hk => hk.2) (.int .u64 (IntKind.u64.wrap (x286000_1 + (ji32))))) (fun _ hk => trivial)⟩, ⟨by (with_reducible repeat (first | refine blk_drewN ?_ _ | refine blk_drew ?_ | refine blk_alloc ?_ _)); refine blk_put (cs := #[.int .u64 x286000_1, .int .u64 a0_1]) ?_ 0 _ rfl; (with_reducible repeat (first | refine blk_drewN ?_ _ | refine blk_drew ?_ | refine blk_alloc ?_ _)); exact BK285.out⟩, ⟨by repeat (first | (with_reducible first | exact HB.out | apply below_alloc | apply pw_below_drewN | apply below_drew1 | refine below_set ?_ GE285.out) | exact HB.out)⟩⟩
                · rw [if_neg c30] at H
                  exact absurd H (by simp)
              · rw [if_neg c28] at H
                exact absurd H (by simp)
      · rw [if_neg c3] at H
        have c3b0 : decide (x286000_1 < a0_1) = false := decide_eq_false c3
        clear c3
        obtain rfl := Option.some.inj H
        have hcz36_0 : wr.cell? ⟨gb285, 0, none⟩ = some (.int .u64 x286000_1) := (blk_cell BK285.out 0).trans rfl
        have hcz36_1 : wr.cell? ⟨gb285, 1, none⟩ = some (.int .u64 a0_1) := (blk_cell BK285.out 1).trans rfl
        have hfz36_0 := blk_frozen BK285.out 0
        have hfz36_1 := blk_frozen BK285.out 1
        go_wp2
        go_ret
        exact ⟨_, by first | rfl | (simp [errW_none, errW_some] <;> rfl) | (simp [*, errW_none, errW_some] <;> rfl), by (with_reducible repeat (first | apply Kd.R_alloc | apply Kd.R_drewN | apply Kd.R_drew)); exact HO_3.out, by repeat (first | (with_reducible first | exact HB.out | apply below_alloc | apply pw_below_drewN | apply below_drew1 | refine below_set ?_ GE285.out) | exact HB.out)⟩

end Go.Proofs.Ytbfhmcgiamnliaa.PAll
