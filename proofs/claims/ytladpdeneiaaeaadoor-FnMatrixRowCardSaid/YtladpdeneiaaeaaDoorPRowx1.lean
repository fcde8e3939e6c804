-- Written by a program of this session (wip/tools)
import Derived.Test.YtladpdeneiaaeaaDoorPRowx0
import Derived.Test.YtladpdeneiaaeaaDoorExtGalR
namespace Go.Proofs.YtladpdeneiaaeaaDoor.PRow
open Go.RowKit Go.Proofs.YtladpdeneiaaeaaDoorW.PrintWords Go.Proofs.YtladpdeneiaaeaaDoorW.PrintLast Go.Proofs.YtladpdeneiaaeaaDoorW.PrintMore
attribute [local go_sem] max2_int min2_int max_two min_two max_three min_three max_four min_four   -- for this text's walks alone
set_option linter.unusedVariables false
set_option linter.unusedSimpArgs false

/-! ### reedsolomon_multiplyRowWithMatrix: function 51 -/
mutual
def reedsolomon_multiplyRowWithMatrix.l0 : Nat → List Int → List (List Int) → List Int → Int → Int → Option (List Int)
  | 0, _, _, _, _, _ => none
  | k + 1, x0, x1, x5, x20, x21 => if x21 < x20 then (reedsolomon_multiplyRowWithMatrix.l1 k x0 x1 x5 x21 x20 x21 (x0.length : Int) 0) else (some x5)
def reedsolomon_multiplyRowWithMatrix.l1 : Nat → List Int → List (List Int) → List Int → Int → Int → Int → Int → Int → Option (List Int)
  | 0, _, _, _, _, _, _, _, _ => none
  | k + 1, x0, x1, x5, x6, x20, x21, x25, x26 => if x26 < x25 then (if 0 ≤ x6 then (if x6 < (x5.length : Int) then (if 0 ≤ x26 then (if x26 < (x0.length : Int) then (if x26 < (x1.length : Int) then (if x6 < ((rd_L1 x1 x26).length : Int) then ((reedsolomon_galMultiply.f (rd x0 x26) (rd (rd_L1 x1 x26) x6)).bind fun t109 => (reedsolomon_multiplyRowWithMatrix.l1 k x0 x1 (x5.set (x6 : Int).toNat (Go.bits .xor .u8 (rd x5 x6) t109)) x6 x20 x21 x25 (wrap64 (x26 + 1)))) else (none)) else (none)) else (none)) else (none)) else (none)) else (none)) else (reedsolomon_multiplyRowWithMatrix.l0 k x0 x1 x5 x20 (wrap64 (x21 + 1)))
end
def reedsolomon_multiplyRowWithMatrix.f (k : Nat) (l0 : List Int) (l1 : List (List Int)) : Option (List Int) := if (l0.length : Int) = (l1.length : Int) then (if 0 < (l1.length : Int) then (if 0 ≤ ((rd_L1 l1 0).length : Int) then (if (((rd_L1 l1 0).length : Int) : Int).toNat ≤ 281474976710656 then ((some (List.replicate (((rd_L1 l1 0).length : Int) : Int).toNat 0 : List Int)).bind fun y102 => (reedsolomon_multiplyRowWithMatrix.l0 k l0 l1 y102 (y102.length : Int) 0)) else (none)) else (none)) else (none)) else (none)
theorem reedsolomon_multiplyRowWithMatrix.mono_l : ∀ k, (∀ y0 y1 y2 y3 y4, LeO (reedsolomon_multiplyRowWithMatrix.l0 k y0 y1 y2 y3 y4) (reedsolomon_multiplyRowWithMatrix.l0 (k + 1) y0 y1 y2 y3 y4)) ∧ (∀ y0 y1 y2 y3 y4 y5 y6 y7, LeO (reedsolomon_multiplyRowWithMatrix.l1 k y0 y1 y2 y3 y4 y5 y6 y7) (reedsolomon_multiplyRowWithMatrix.l1 (k + 1) y0 y1 y2 y3 y4 y5 y6 y7))
  | 0 => ⟨fun _ _ _ _ _ r h => by simp [reedsolomon_multiplyRowWithMatrix.l0] at h, fun _ _ _ _ _ _ _ _ r h => by simp [reedsolomon_multiplyRowWithMatrix.l1] at h⟩
  | k + 1 => by
    obtain ⟨ih0, ih1⟩ := reedsolomon_multiplyRowWithMatrix.mono_l k
    refine ⟨?_, ?_⟩
    · intro y0 y1 y2 y3 y4
      unfold reedsolomon_multiplyRowWithMatrix.l0
      repeat' first
      | (with_reducible exact ih0 _ _ _ _ _)
      | (with_reducible exact ih1 _ _ _ _ _ _ _ _)
      | (with_reducible exact LeO.refl _)
      | (with_reducible exact LeO.none _)
      | (with_reducible refine LeO.ite ?_ ?_)
      | (with_reducible refine LeO.bind ?_ (fun _ => ?_))
      | exact ih0 _ _ _ _ _
      | exact ih1 _ _ _ _ _ _ _ _
      | exact LeO.none _
      | refine LeO.ite ?_ ?_
      | refine LeO.bind ?_ (fun _ => ?_)
    · intro y0 y1 y2 y3 y4 y5 y6 y7
      unfold reedsolomon_multiplyRowWithMatrix.l1
      repeat' first
      | (with_reducible exact ih0 _ _ _ _ _)
      | (with_reducible exact ih1 _ _ _ _ _ _ _ _)
      | (with_reducible exact LeO.refl _)
      | (with_reducible exact LeO.none _)
      | (with_reducible refine LeO.ite ?_ ?_)
      | (with_reducible refine LeO.bind ?_ (fun _ => ?_))
      | exact ih0 _ _ _ _ _
      | exact ih1 _ _ _ _ _ _ _ _
      | exact LeO.none _
      | refine LeO.ite ?_ ?_
      | refine LeO.bind ?_ (fun _ => ?_)
theorem reedsolomon_multiplyRowWithMatrix.mono : ∀ a0 a1 k, LeO (reedsolomon_multiplyRowWithMatrix.f k a0 a1) (reedsolomon_multiplyRowWithMatrix.f (k + 1) a0 a1) := by
  intro a0 a1 k
  obtain ⟨ih0, ih1⟩ := reedsolomon_multiplyRowWithMatrix.mono_l k
  unfold reedsolomon_multiplyRowWithMatrix.f
  repeat' first
      | (with_reducible exact ih0 _ _ _ _ _)
      | (with_reducible exact ih1 _ _ _ _ _ _ _ _)
      | (with_reducible exact LeO.refl _)
      | (with_reducible exact LeO.none _)
      | (with_reducible refine LeO.ite ?_ ?_)
      | (with_reducible refine LeO.bind ?_ (fun _ => ?_))
      | exact ih0 _ _ _ _ _
      | exact ih1 _ _ _ _ _ _ _ _
      | exact LeO.none _
      | refine LeO.ite ?_ ?_
      | refine LeO.bind ?_ (fun _ => ?_)
def reedsolomon_multiplyRowWithMatrix.T10 : Bool × List (List Nat × List Nat) := (true, [([], []), ([], []), ([0, 1], [0, 1]), ([2], [2]), ([], []), ([], []), ([4, 5], [4, 5]), ([6], [6]), ([], []), ([], []), ([8, 9], [8, 9]), ([10], [10]), ([], []), ([11, 12], [11, 12]), ([13], [13]), ([7, 14], [7, 14]), ([3, 15], [3, 15]), ([0, 1, 0, 1, 2, 3, 4, 5, 6, 7, 8, 9, 10, 11, 12, 13, 14, 15, 16], [0, 1]), ([17, 16, 15, 0, 1, 2, 3, 4, 5, 6, 7, 8, 9, 10, 11, 12, 13, 14, 15, 16], [16, 17])])
def reedsolomon_multiplyRowWithMatrix.B10 : List Nat := [0, 0, 3, 7, 0, 0, 48, 112, 0, 0, 768, 1792, 0, 7936, 16128, 32752, 65535, 131071, 262143]
theorem reedsolomon_multiplyRowWithMatrix.tab10 : rtab .any (opsOf Tryd.f51 10) = reedsolomon_multiplyRowWithMatrix.T10 := by kernel_rfl
theorem reedsolomon_multiplyRowWithMatrix.bits10 : waitsOk reedsolomon_multiplyRowWithMatrix.T10.2 reedsolomon_multiplyRowWithMatrix.B10 = true := by kernel_rfl
set_option maxHeartbeats 8000000 in
set_option maxRecDepth 100000 in
theorem reedsolomon_multiplyRowWithMatrix.calls (k : Nat) (A0 : Option Addr) (c0 : Nat) (l0 : List Int) (A1 : Option Addr) (c1 : Nat) (l1 : List (List Int)) (r : List Int) (w : World) (hG : Glob w) (hr0 : Kd.C (Kd.int .u8) w A0 l0.length l0) (hc0 : l0.length ≤ c0) (hr1 : Kd.C (Kd.slice 5 (Kd.int .u8)) w A1 l1.length l1) (hc1 : l1.length ≤ c1) (h : reedsolomon_multiplyRowWithMatrix.f k l0 l1 = some r) :
    Calls Tryd.prog 51 #[.slice A0 l0.length c0, .slice A1 l1.length c1] w fun e w' => ∃ v0_ : Value, e = .returned (v0_) ∧ Kd.R (Kd.int .u8) 5 w' w.heap.size (fun _ => True) v0_ r ∧ Below w.heap.size w w' := by
  have HR0 := Aside0.mk hr0
  have HC0 := Aside0.mk hc0
  clear hr0 hc0
  have HR1 := Aside0.mk hr1
  have HC1 := Aside0.mk hc1
  clear hr1 hc1
  have HB := Aside0.mk (Below.refl w.heap.size w)
  have H : (if (l0.length : Int) = (l1.length : Int) then (if 0 < (l1.length : Int) then (if 0 ≤ ((rd_L1 l1 0).length : Int) then (if (((rd_L1 l1 0).length : Int) : Int).toNat ≤ 281474976710656 then ((some (List.replicate (((rd_L1 l1 0).length : Int) : Int).toNat 0 : List Int)).bind fun y102 => (reedsolomon_multiplyRowWithMatrix.l0 k l0 l1 y102 (y102.length : Int) 0)) else (none)) else (none)) else (none)) else (none)) = some r := h
  clear h
  by_cases c3 : (l0.length : Int) = (l1.length : Int)
  · rw [if_pos c3] at H
    have c3b0 : ((l0.length : Int) == (l1.length : Int)) = true := beq_iff_eq.mpr c3
    have c3b1 : ((l0.length : Int) != (l1.length : Int)) = false := bne_eq_false_iff_eq.mpr c3
    have c3b2 : (l0.length == l1.length) = true := by first | simpa using c3 | (simp at c3 ⊢; omega)
    clear c3
    by_cases c4 : 0 < (l1.length : Int)
    · rw [if_pos c4] at H
      have c4b0 : decide (0 < (l1.length : Int)) = true := decide_eq_true c4
      have c4b1 : decide (0 < l1.length) = true := decide_eq_true (by omega)
      clear c4
      by_cases c5 : 0 ≤ ((rd_L1 l1 0).length : Int)
      · rw [if_pos c5] at H
        have c5b0 := eq_true c5
        have c5b1 : decide (0 ≤ ((rd_L1 l1 0).length : Int)) = true := decide_eq_true c5
        clear c5
        by_cases c6 : (((rd_L1 l1 0).length : Int) : Int).toNat ≤ 281474976710656
        · rw [if_pos c6] at H
          have c6b0 := eq_true c6
          have c6b1 : decide ((((rd_L1 l1 0).length : Int) : Int).toNat ≤ 281474976710656) = true := decide_eq_true c6
          clear c6
          obtain ⟨y102, hy102⟩ : ∃ y_ : List Int, y_ = (List.replicate (((rd_L1 l1 0).length : Int) : Int).toNat 0) := ⟨_, rfl⟩
          replace H : (reedsolomon_multiplyRowWithMatrix.l0 k l0 l1 y102 (y102.length : Int) 0) = some r := by first | (rw [hy102]; with_reducible exact H) | (have H2_ := (Option.bind_some _ _).symm.trans H; rw [hy102]; with_reducible exact H2_) | (have H2_ := (Option.bind_some _ _).symm.trans H; with_reducible exact H2_) | with_reducible exact H | (rw [hy102]; exact H) | exact H
          have Ny102 := Aside0.mk hy102
          clear hy102
          have H' := Aside0.mk H
          clear H
          have p101 : 0 ≤ (0 : Int) := (by omega)
          have q101 : 0 < (l1.length : Int) := of_decide_eq_true (by first | (with_reducible assumption) | assumption)
          obtain ⟨ad101, A101_0, c101_0, e101, hx101_0, hl101_0, hi101_0⟩ := at_L1 HR1.out 0 p101 q101
          cases e101
          have qi101 : (0 < l1.length) = True := eq_true (by omega)
          (try rw [show ((0 : Int)).toNat = 0 from rfl] at hx101_0)
          (try rw [Addr.add_zero'] at hx101_0)
          have HR101_0 := Aside0.mk hi101_0
          have HC101_0 := Aside0.mk hl101_0
          clear hi101_0 hl101_0
          replace p101 := eq_true p101
          replace q101 := eq_true q101
          go_enter Tryd.func51, Tryd.ntmps51
          go_wp2_with (first | ((with_reducible refine gate_dst (N := 18) rfl ?_); refine Kd.R_make (Kd.int .u8) _ 5 rfl (N := 18) rfl 25 _ _ rfl ((rd_L1 l1 0).length : Int) rfl rfl Tryd.underlying25 (.int .u8 0) 1 info5 rfl (by decide) (by omega) 0 (ok := fun _ => True) (okp := fun _ => True) rfl (fun _ hk => hk) trivial (of_decide_eq_true (by first | (with_reducible assumption) | assumption)) (Nat.le_trans (Nat.mul_le_mul_right _ (of_decide_eq_true (by first | (with_reducible assumption) | assumption) : ((rd_L1 l1 0).length : Int).toNat ≤ 281474976710656)) (by omega)) (Below.refl _ _) (Nat.le_refl _) ?_; intro v103 w7 ho8 hb hg_ hnew_; clear hg_ hnew_; (first | rw [← Ny102.out] at ho8 | (simp only [Int.reduceToNat] at ho8; rw [← Ny102.out] at ho8)); have n0_ := Aside0.mk (Kd.R_lower ho8 (below_size (by repeat (first | (with_reducible first | exact HB.out | apply below_alloc | apply pw_below_drewN | apply below_drew1) | exact HB.out)))); have n1_ := Aside0.mk (below_step (by repeat (first | (with_reducible first | exact HB.out | apply below_alloc | apply pw_below_drewN | apply below_drew1) | exact HB.out)) hb); clear HB; have HO104 := n0_; have HB := n1_; clear n0_ n1_; clear hb ho8; obtain ⟨Ao9, co9, eo9⟩ := Kd.R_slice HO104.out; subst eo9))
          try simp only [Act.put, List.setIfInBounds_toArray, List.set_cons_zero, List.set_cons_succ]
          go_loopg [21] k (fun kq v21 w' => ∃ (x5_1 : List Int) (x21_1 : Int), v21 = .int .i64 x21_1 ∧ Aside0 (reedsolomon_multiplyRowWithMatrix.l0 kq l0 l1 x5_1 (y102.length : Int) x21_1 = some r) ∧ Aside0 (kq ≤ k) ∧ Aside0 (Kd.R (Kd.int .u8) 5 w' w.heap.size (fun _ => True) (.slice Ao9 y102.length co9) x5_1) ∧ Aside0 (Below w.heap.size w w'))
          case atStart => exact ⟨(y102), (0), (by first | rfl | (simp; done) | (simp [*]; done)), H', ⟨Nat.le_refl _⟩, ⟨by (with_reducible repeat (first | apply Kd.R_alloc | apply Kd.R_drewN | apply Kd.R_drew)); exact HO104.out⟩, ⟨by repeat (first | (with_reducible first | exact HB.out | apply below_alloc | apply pw_below_drewN | apply below_drew1) | exact HB.out)⟩⟩
          case round =>
            clear H'
            try clear c1
            try clear p1
            try clear q1
            try clear hx1
            try clear qi1
            try clear p2
            try clear c3
            try clear c3b0
            try clear c3b1
            try clear c3b2
            try clear c4
            try clear c4b0
            try clear c4b1
            try clear c5
            try clear c5b0
            try clear c5b1
            try clear c6
            try clear c6b0
            try clear c6b1
            try clear hx101_0
            try clear p101
            try clear q101
            obtain ⟨x5_1, x21_1, rfl, HA, HK1, HO_5, HB⟩ := hrel
            have hl5_1 := (Kd.R_reads' HO_5.out).1
            rw [hl5_1] at HO_5
            (try simp only [hl5_1])
            cases gk with
            | zero => exact absurd HA.out (by simp [reedsolomon_multiplyRowWithMatrix.l0])
            | succ k1 =>
              have H := HA.out
              clear HA
              simp only [reedsolomon_multiplyRowWithMatrix.l0] at H
              by_cases c10 : x21_1 < (y102.length : Int)
              · rw [if_pos c10] at H
                have c10b0 : decide (x21_1 < (y102.length : Int)) = true := decide_eq_true c10
                have c10b0h := c10b0
                (try rw [hl5_1] at c10b0h)
                clear c10
                have H' := Aside0.mk H
                clear H
                go_wp2
                try simp only [Act.put, List.setIfInBounds_toArray, List.set_cons_zero, List.set_cons_succ]
                go_loopg [26] k1 (fun kq v26 w' => ∃ (x5_2 : List Int) (x26_2 : Int), v26 = .int .i64 x26_2 ∧ Aside0 (reedsolomon_multiplyRowWithMatrix.l1 kq l0 l1 x5_2 x21_1 (y102.length : Int) x21_1 (l0.length : Int) x26_2 = some r) ∧ Aside0 (kq ≤ k1) ∧ Aside0 (Kd.R (Kd.int .u8) 5 w' w.heap.size (fun _ => True) (.slice Ao9 x5_1.length co9) x5_2) ∧ Aside0 (Below w.heap.size w w'))
                case atStart => exact ⟨(x5_1), (0), (by first | rfl | (simp; done) | (simp [*]; done)), H', ⟨Nat.le_refl _⟩, ⟨by (try simp only [hl5_1]); (with_reducible repeat (first | apply Kd.R_alloc | apply Kd.R_drewN | apply Kd.R_drew)); exact HO_5.out⟩, ⟨by repeat (first | (with_reducible first | exact HB.out | apply below_alloc | apply pw_below_drewN | apply below_drew1) | exact HB.out)⟩⟩
                case round =>
                  clear H'
                  try clear c1
                  try clear p1
                  try clear q1
                  try clear hx1
                  try clear qi1
                  try clear p2
                  try clear c3
                  try clear c3b0
                  try clear c3b1
                  try clear c3b2
                  try clear c4
                  try clear c4b0
                  try clear c4b1
                  try clear c5
                  try clear c5b0
                  try clear c5b1
                  try clear c6
                  try clear c6b0
                  try clear c6b1
                  try clear c10
                  try clear c10b0
                  try clear p10
                  try clear q10
                  try clear hx10
                  try clear qi10
                  try clear hx101_0
                  try clear p1
                  try clear p101
                  try clear p2
                  try clear q1
                  try clear q101
                  obtain ⟨x5_2, x26_2, rfl, HA, HK2, HO_5, HB⟩ := hrel
                  have hl5_2 := (Kd.R_reads' HO_5.out).1
                  rw [hl5_2] at HO_5
                  (try simp only [hl5_2])
                  cases gk with
                  | zero => exact absurd HA.out (by simp [reedsolomon_multiplyRowWithMatrix.l1])
                  | succ k2 =>
                    have H := HA.out
                    clear HA
                    simp only [reedsolomon_multiplyRowWithMatrix.l1] at H
                    by_cases c11 : x26_2 < (l0.length : Int)
                    · rw [if_pos c11] at H
                      have c11b0 : decide (x26_2 < (l0.length : Int)) = true := decide_eq_true c11
                      clear c11
                      by_cases c12 : 0 ≤ x21_1
                      · rw [if_pos c12] at H
                        have c12b0 : decide (0 ≤ x21_1) = true := decide_eq_true c12
                        clear c12
                        by_cases c13 : x21_1 < (x5_2.length : Int)
                        · rw [if_pos c13] at H
                          have c13b0 : decide (x21_1 < (x5_2.length : Int)) = true := decide_eq_true c13
                          clear c13
                          by_cases c14 : 0 ≤ x26_2
                          · rw [if_pos c14] at H
                            have c14b0 : decide (0 ≤ x26_2) = true := decide_eq_true c14
                            clear c14
                            by_cases c15 : x26_2 < (l0.length : Int)
                            · rw [if_pos c15] at H
                              have c15b0 : decide (x26_2 < (l0.length : Int)) = true := decide_eq_true c15
                              clear c15
                              by_cases c16 : x26_2 < (l1.length : Int)
                              · rw [if_pos c16] at H
                                have c16b0 : decide (x26_2 < (l1.length : Int)) = true := decide_eq_true c16
                                clear c16
                                by_cases c17 : x21_1 < ((rd_L1 l1 x26_2).length : Int)
                                · rw [if_pos c17] at H
                                  have c17b0 : decide (x21_1 < ((rd_L1 l1 x26_2).length : Int)) = true := decide_eq_true c17
                                  clear c17
                                  replace H := Option.bind_eq_some_iff.mp H
                                  obtain ⟨t109, A180, H⟩ := H
                                  replace H : (reedsolomon_multiplyRowWithMatrix.l1 k2 l0 l1 (x5_2.set (x21_1 : Int).toNat (Go.bits .xor .u8 (rd x5_2 x21_1) t109)) x21_1 (y102.length : Int) x21_1 (l0.length : Int) (wrap64 (x26_2 + 1))) = some r := H
                                  have A18 := Aside0.mk A180
                                  clear A180
                                  obtain ⟨y110, hy110⟩ : ∃ y_ : List Int, y_ = (x5_2.set (x21_1 : Int).toNat (Go.bits .xor .u8 (rd x5_2 x21_1) t109)) := ⟨_, rfl⟩
                                  replace H : (reedsolomon_multiplyRowWithMatrix.l1 k2 l0 l1 y110 x21_1 (y102.length : Int) x21_1 (l0.length : Int) (wrap64 (x26_2 + 1))) = some r := by first | (rw [hy110]; with_reducible exact H) | (have H2_ := (Option.bind_some _ _).symm.trans H; rw [hy110]; with_reducible exact H2_) | (have H2_ := (Option.bind_some _ _).symm.trans H; with_reducible exact H2_) | with_reducible exact H | (rw [hy110]; exact H) | exact H
                                  have Ny110 := Aside0.mk hy110
                                  clear hy110
                                  have H' := Aside0.mk H
                                  clear H
                                  try go_wp2
                                  (try (rw [drewN_self wr]; generalize hq_ : World.drewN wr _ = wr; have n0_ : Aside0 (Kd.R (Kd.int .u8) 5 wr w.heap.size (fun _ => True) (.slice Ao9 x5_2.length co9) x5_2) := ⟨by rw [← hq_]; exact (by (with_reducible repeat (first | apply Kd.R_alloc | apply Kd.R_drewN | apply Kd.R_drew)); exact HO_5.out)⟩; have n1_ : Aside0 (Below w.heap.size w wr) := ⟨by rw [← hq_]; exact (by repeat (first | (with_reducible first | exact HB.out | apply below_alloc | apply pw_below_drewN | apply below_drew1) | exact HB.out))⟩; clear HO_5 HB hq_; have HO_5 := n0_; have HB := n1_; clear n0_ n1_))
                                  have n0_ := Aside0.mk (Kd.R_drew HO_5.out)
                                  have n1_ := Aside0.mk (below_drew1 HB.out)
                                  clear HO_5
                                  clear HB
                                  have HO_5 := n0_
                                  have HB := n1_
                                  clear n0_ n1_
                                  have p105 : 0 ≤ (x21_1 : Int) := of_decide_eq_true (by first | (with_reducible assumption) | assumption)
                                  have q105 : x21_1 < (x5_2.length : Int) := of_decide_eq_true (by first | (with_reducible assumption) | assumption)
                                  obtain ⟨ad105, e105, hx105_0⟩ := Kd.at_int (Kd.R_reads' HO_5.out).2.2 x21_1 p105 q105
                                  cases e105
                                  replace p105 := eq_true p105
                                  replace q105 := eq_true q105
                                  have p106 : 0 ≤ (x26_2 : Int) := of_decide_eq_true (by first | (with_reducible assumption) | assumption)
                                  have q106 : x26_2 < (l0.length : Int) := of_decide_eq_true (by first | (with_reducible assumption) | assumption)
                                  obtain ⟨ad106, e106, hx106_0⟩ := Kd.at_int HR0.out x26_2 p106 q106
                                  have hw106_0 := hx106_0
                                  cases e106
                                  replace hx106_0 := (HB.out.cell (World.block_lt_of_cell? w _ hx106_0)).trans hx106_0
                                  replace p106 := eq_true p106
                                  replace q106 := eq_true q106
                                  have p107 : 0 ≤ (x26_2 : Int) := of_decide_eq_true (by first | (with_reducible assumption) | assumption)
                                  have q107 : x26_2 < (l1.length : Int) := of_decide_eq_true (by first | (with_reducible assumption) | assumption)
                                  obtain ⟨ad107, A107_0, c107_0, e107, hx107_0, hl107_0, hi107_0⟩ := at_L1 HR1.out x26_2 p107 q107
                                  have hw107_0 := hx107_0
                                  obtain rfl : ad101 = ad107 := (by injection e107)
                                  replace hx107_0 := (HB.out.cell (World.block_lt_of_cell? w _ hx107_0)).trans hx107_0
                                  have HR107_0 := Aside0.mk hi107_0
                                  have HC107_0 := Aside0.mk hl107_0
                                  clear hi107_0 hl107_0
                                  replace p107 := eq_true p107
                                  replace q107 := eq_true q107
                                  have p108 : 0 ≤ (x21_1 : Int) := of_decide_eq_true (by first | (with_reducible assumption) | assumption)
                                  have q108 : x21_1 < ((rd_L1 l1 x26_2).length : Int) := of_decide_eq_true (by first | (with_reducible assumption) | assumption)
                                  obtain ⟨ad108, e108, hx108_0⟩ := Kd.at_int HR107_0.out x21_1 p108 q108
                                  have hw108_0 := hx108_0
                                  cases e108
                                  replace hx108_0 := (HB.out.cell (World.block_lt_of_cell? w _ hx108_0)).trans hx108_0
                                  replace p108 := eq_true p108
                                  replace q108 := eq_true q108
                                  refine start_ (n := 19) (S := fun w' => w'.cell? (ad105.add (x21_1).toNat) = some (.int .u8 (rd x5_2 x21_1)) ∧ w'.cell? (ad106.add (x26_2).toNat) = some (.int .u8 (rd l0 x26_2)) ∧ w'.cell? (ad101.add (x26_2).toNat) = some (.slice (some ad108) (rd_L1 l1 x26_2).length c107_0) ∧ w'.cell? (ad108.add (x21_1).toNat) = some (.int .u8 (rd (rd_L1 l1 x26_2) x21_1))) (ds := [18]) #[false, false, false, false, false, false, false, false, false, false, false, false, false, false, false, false, false, false, false] (by kernel_rfl) rfl rfl ⟨hx105_0, ((HB.out.cell (World.block_lt_of_cell? w _ hw106_0)).trans hw106_0), ((HB.out.cell (World.block_lt_of_cell? w _ hw107_0)).trans hw107_0), ((HB.out.cell (World.block_lt_of_cell? w _ hw108_0)).trans hw108_0)⟩ (fun hHeld => ?_); refine with_tabW reedsolomon_multiplyRowWithMatrix.tab10 reedsolomon_multiplyRowWithMatrix.bits10 (fun HT_ HW_ => ?_)
                                  generalize wr.drew = w20 at HO_5 HB HR107_0 hx105_0 hx106_0 hx107_0 hx108_0 hHeld ⊢
                                  refine pure_ (i := 0) (N := some 29) (v := ?_) (a' := ?_) #[true, false, false, false, false, false, false, false, false, false, false, false, false, false, false, false, false, false, false] rfl rfl (any_of HT_.out (by kernel_rfl)) (fun _ _ _ h => h) (Or.inl ⟨by rfl, ?_⟩) ?_ ?_
                                  rotate_left
                                  · intro w'
                                    go_simp
                                    with_reducible rfl
                                  rotate_left
                                  · simp only [Act.put, List.setIfInBounds_toArray, List.set_cons_zero, List.set_cons_succ, i64_w, i32_w]
                                    rfl
                                  refine pure_ (i := 1) (N := some 30) (v := ?_) (a' := ?_) #[true, true, false, false, false, false, false, false, false, false, false, false, false, false, false, false, false, false, false] rfl rfl (any_of HT_.out (by kernel_rfl)) (fun _ _ _ h => h) (Or.inl ⟨by rfl, ?_⟩) ?_ ?_
                                  rotate_left
                                  · intro w'
                                    go_simp
                                    with_reducible rfl
                                  rotate_left
                                  · simp only [Act.put, List.setIfInBounds_toArray, List.set_cons_zero, List.set_cons_succ, i64_w, i32_w]
                                    rfl
                                  refine pure_ (i := 2) (N := some 31) (v := ?_) (a' := ?_) #[true, true, true, false, false, false, false, false, false, false, false, false, false, false, false, false, false, false, false] rfl rfl (any_of HT_.out (by kernel_rfl)) (fun _ _ _ h => h) (Or.inl ⟨by rfl, ?_⟩) ?_ ?_
                                  rotate_left
                                  · intro w'
                                    go_simp
                                    with_reducible rfl
                                  rotate_left
                                  · simp only [Act.put, List.setIfInBounds_toArray, List.set_cons_zero, List.set_cons_succ, i64_w, i32_w]
                                    rfl
                                  refine pure_ (i := 4) (N := some 33) (v := ?_) (a' := ?_) #[true, true, true, false, true, false, false, false, false, false, false, false, false, false, false, false, false, false, false] rfl rfl (any_of HT_.out (by kernel_rfl)) (fun _ _ _ h => h) (Or.inl ⟨by rfl, ?_⟩) ?_ ?_
                                  rotate_left
                                  · intro w'
                                    go_simp
                                    with_reducible rfl
                                  rotate_left
                                  · simp only [Act.put, List.setIfInBounds_toArray, List.set_cons_zero, List.set_cons_succ, i64_w, i32_w]
                                    rfl
                                  refine pure_ (i := 5) (N := some 34) (v := ?_) (a' := ?_) #[true, true, true, false, true, true, false, false, false, false, false, false, false, false, false, false, false, false, false] rfl rfl (any_of HT_.out (by kernel_rfl)) (fun _ _ _ h => h) (Or.inl ⟨by rfl, ?_⟩) ?_ ?_
                                  rotate_left
                                  · intro w'
                                    go_simp
                                    with_reducible rfl
                                  rotate_left
                                  · simp only [Act.put, List.setIfInBounds_toArray, List.set_cons_zero, List.set_cons_succ, i64_w, i32_w]
                                    rfl
                                  refine pure_ (i := 6) (N := some 35) (v := ?_) (a' := ?_) #[true, true, true, false, true, true, true, false, false, false, false, false, false, false, false, false, false, false, false] rfl rfl (any_of HT_.out (by kernel_rfl)) (fun _ _ _ h => h) (Or.inl ⟨by rfl, ?_⟩) ?_ ?_
                                  rotate_left
                                  · intro w'
                                    go_simp
                                    with_reducible rfl
                                  rotate_left
                                  · simp only [Act.put, List.setIfInBounds_toArray, List.set_cons_zero, List.set_cons_succ, i64_w, i32_w]
                                    rfl
                                  refine pure_ (i := 8) (N := some 37) (v := ?_) (a' := ?_) #[true, true, true, false, true, true, true, false, true, false, false, false, false, false, false, false, false, false, false] rfl rfl (any_of HT_.out (by kernel_rfl)) (fun _ _ _ h => h) (Or.inl ⟨by rfl, ?_⟩) ?_ ?_
                                  rotate_left
                                  · intro w'
                                    go_simp
                                    with_reducible rfl
                                  rotate_left
                                  · simp only [Act.put, List.setIfInBounds_toArray, List.set_cons_zero, List.set_cons_succ, i64_w, i32_w]
                                    rfl
                                  refine pure_ (i := 9) (N := some 38) (v := ?_) (a' := ?_) #[true, true, true, false, true, true, true, false, true, true, false, false, false, false, false, false, false, false, false] rfl rfl (any_of HT_.out (by kernel_rfl)) (fun _ _ _ h => h) (Or.inl ⟨by rfl, ?_⟩) ?_ ?_
                                  rotate_left
                                  · intro w'
                                    go_simp
                                    with_reducible rfl
                                  rotate_left
                                  · simp only [Act.put, List.setIfInBounds_toArray, List.set_cons_zero, List.set_cons_succ, i64_w, i32_w]
                                    rfl
                                  refine pure_ (i := 10) (N := some 39) (v := ?_) (a' := ?_) #[true, true, true, false, true, true, true, false, true, true, true, false, false, false, false, false, false, false, false] rfl rfl (any_of HT_.out (by kernel_rfl)) (fun _ _ _ h => h) (Or.inl ⟨by rfl, ?_⟩) ?_ ?_
                                  rotate_left
                                  · intro w'
                                    go_simp
                                    with_reducible rfl
                                  rotate_left
                                  · simp only [Act.put, List.setIfInBounds_toArray, List.set_cons_zero, List.set_cons_succ, i64_w, i32_w]
                                    rfl
                                  refine pure_ (i := 12) (N := some 41) (v := ?_) (a' := ?_) #[true, true, true, false, true, true, true, false, true, true, true, false, true, false, false, false, false, false, false] rfl rfl (any_of HT_.out (by kernel_rfl)) (fun _ _ _ h => h) (Or.inl ⟨by rfl, ?_⟩) ?_ ?_
                                  rotate_left
                                  · intro w'
                                    go_simp
                                    with_reducible rfl
                                  rotate_left
                                  · simp only [Act.put, List.setIfInBounds_toArray, List.set_cons_zero, List.set_cons_succ, i64_w, i32_w]
                                    rfl
                                  refine take_ (i := 3) (N := some 32) (v := ?_) (a' := ?_) #[true, true, true, true, true, true, true, false, true, true, true, false, true, false, false, false, false, false, false] rfl rfl (take_ofW HT_.out HW_.out (by kernel_rfl)) (fun _ _ _ h => h) (Or.inl ⟨by rfl, ?_⟩) hHeld ?_ ?_
                                  rotate_left
                                  · rintro w' ⟨s0, s1, s2, s3⟩
                                    go_simp
                                    with_reducible rfl
                                  rotate_left
                                  · simp only [Act.put, List.setIfInBounds_toArray, List.set_cons_zero, List.set_cons_succ, i64_w, i32_w]
                                    rfl
                                  refine take_ (i := 7) (N := some 36) (v := ?_) (a' := ?_) #[true, true, true, true, true, true, true, true, true, true, true, false, true, false, false, false, false, false, false] rfl rfl (take_ofW HT_.out HW_.out (by kernel_rfl)) (fun _ _ _ h => h) (Or.inl ⟨by rfl, ?_⟩) hHeld ?_ ?_
                                  rotate_left
                                  · rintro w' ⟨s0, s1, s2, s3⟩
                                    go_simp
                                    with_reducible rfl
                                  rotate_left
                                  · simp only [Act.put, List.setIfInBounds_toArray, List.set_cons_zero, List.set_cons_succ, i64_w, i32_w]
                                    rfl
                                  refine take_ (i := 11) (N := some 40) (v := ?_) (a' := ?_) #[true, true, true, true, true, true, true, true, true, true, true, true, true, false, false, false, false, false, false] rfl rfl (take_ofW HT_.out HW_.out (by kernel_rfl)) (fun _ _ _ h => h) (Or.inl ⟨by rfl, ?_⟩) hHeld ?_ ?_
                                  rotate_left
                                  · rintro w' ⟨s0, s1, s2, s3⟩
                                    go_simp
                                    with_reducible rfl
                                  rotate_left
                                  · simp only [Act.put, List.setIfInBounds_toArray, List.set_cons_zero, List.set_cons_succ, i64_w, i32_w]
                                    rfl
                                  refine pure_ (i := 13) (N := some 42) (v := ?_) (a' := ?_) #[true, true, true, true, true, true, true, true, true, true, true, true, true, true, false, false, false, false, false] rfl rfl (any_of HT_.out (by kernel_rfl)) (fun _ _ _ h => h) (Or.inl ⟨by rfl, ?_⟩) ?_ ?_
                                  rotate_left
                                  · intro w'
                                    go_simp
                                    with_reducible rfl
                                  rotate_left
                                  · simp only [Act.put, List.setIfInBounds_toArray, List.set_cons_zero, List.set_cons_succ, i64_w, i32_w]
                                    rfl
                                  refine take_ (i := 14) (N := some 43) (v := ?_) (a' := ?_) #[true, true, true, true, true, true, true, true, true, true, true, true, true, true, true, false, false, false, false] rfl rfl (take_ofW HT_.out HW_.out (by kernel_rfl)) (fun _ _ _ h => h) (Or.inl ⟨by rfl, ?_⟩) hHeld ?_ ?_
                                  rotate_left
                                  · rintro w' ⟨s0, s1, s2, s3⟩
                                    go_simp
                                    with_reducible rfl
                                  rotate_left
                                  · simp only [Act.put, List.setIfInBounds_toArray, List.set_cons_zero, List.set_cons_succ, i64_w, i32_w]
                                    rfl
                                  refine one_ (i := 15) (N := some 44) #[true, true, true, true, true, true, true, true, true, true, true, true, true, true, true, true, false, false, false] rfl rfl (one_of HT_.out (by kernel_rfl)) (by decide) (fun K hK => ?_)
                                  refine goes_ Tryd.func44 (by kernel_rfl) rfl #[.int .u8 (rd l0 x26_2), .int .u8 (rd (rd_L1 l1 x26_2) x21_1)] (by rfl) rfl rfl (by (try simp only [List.map_toArray, List.map_cons, List.map_nil]); first | done | rfl | (simp only [List.length_drop, List.length_take]; rfl)) ?_
                                  with_reducible refine (reedsolomon_galMultiply.calls (rd l0 x26_2) (rd (rd_L1 l1 x26_2) x21_1) t109 _ ?side1 A18.out).mono ?_
                                  (case side1 => exact Glob.below hG (by repeat (first | (with_reducible first | exact HB.out | apply below_alloc | apply pw_below_drewN | apply below_drew1) | exact HB.out)))
                                  rintro e w' ⟨rfl, ⟨nd, rfl⟩⟩
                                  refine ⟨_, rfl, ?_⟩
                                  have p19 : 0 ≤ (x21_1 : Int) := of_decide_eq_true (by first | (with_reducible assumption) | assumption)
                                  have q19 : (x21_1 : Int) < ((x5_2.length : Int) : Int) := of_decide_eq_true (by first | (with_reducible assumption) | assumption)
                                  obtain ⟨go19, co19, eo19, gb19, gl19, cl19, HG19⟩ := Kd.R_form HO_5.out (by omega)
                                  (first | cases eo19 | (injection eo19 with ea_ en_ ec_; (first | subst ea_ | (injection ea_ with ea_; subst ea_)); subst ec_; clear en_))
                                  have GB19 := Aside0.mk gb19
                                  have GG19 := Aside0.mk HG19
                                  clear gb19 gl19 HG19
                                  (first | simp only [add_plain] at hx105_0 | skip)
                                  obtain ⟨hx19_0, hf19_0⟩ := Kd.R_celln 0 HO_5.out (x21_1 : Int) p19 q19
                                  replace p19 := eq_true p19
                                  replace q19 := eq_true q19
                                  have HP21 := Kd.R_putn HO_5.out (x21_1 : Int) (Go.bits .xor .u8 (rd x5_2 x21_1) t109)
                                  rw [← Ny110.out] at HP21
                                  have HQ21 := Aside0.mk HP21
                                  clear HP21
                                  refine hK.out _ _ ⟨hHeld.1, ((HB.out.cell (World.block_lt_of_cell? w _ hw106_0)).trans hw106_0), ((HB.out.cell (World.block_lt_of_cell? w _ hw107_0)).trans hw107_0), ((HB.out.cell (World.block_lt_of_cell? w _ hw108_0)).trans hw108_0)⟩ (fun hHeld => ?_)
                                  clear hK K
                                  refine norm_ (a' := ?_) ?_ ?_
                                  rotate_left
                                  · show Act.put _ (some 44) _ = _
                                    simp only [Act.put, List.setIfInBounds_toArray, List.set_cons_zero, List.set_cons_succ, i64_w, i32_w]
                                    rfl
                                  refine pure_ (i := 16) (N := some 45) (v := ?_) (a' := ?_) #[true, true, true, true, true, true, true, true, true, true, true, true, true, true, true, true, true, false, false] rfl rfl (any_of HT_.out (by kernel_rfl)) (fun _ _ _ h => h) (Or.inl ⟨by rfl, ?_⟩) ?_ ?_
                                  rotate_left
                                  · intro w'
                                    go_simp
                                    with_reducible rfl
                                  rotate_left
                                  · simp only [Act.put, List.setIfInBounds_toArray, List.set_cons_zero, List.set_cons_succ, i64_w, i32_w]
                                    rfl
                                  refine pure_ (i := 17) (N := some 46) (v := ?_) (a' := ?_) #[true, true, true, true, true, true, true, true, true, true, true, true, true, true, true, true, true, true, false] rfl rfl (any_of HT_.out (by kernel_rfl)) (fun _ _ _ h => h) (Or.inl ⟨by rfl, ?_⟩) ?_ ?_
                                  rotate_left
                                  · intro w'
                                    go_simp
                                    with_reducible rfl
                                  rotate_left
                                  · simp only [Act.put, List.setIfInBounds_toArray, List.set_cons_zero, List.set_cons_succ, i64_w, i32_w]
                                    rfl
                                  refine last_ (i := 18) (N := none) #[true, true, true, true, true, true, true, true, true, true, true, true, true, true, true, true, true, true, true] rfl rfl (one_of HT_.out (by kernel_rfl)) (by decide) (fun K hK => ?_)
                                  refine skip_ (w1 := ?_) (by rfl) rfl ?_ ?_
                                  rotate_left
                                  · go_simp
                                    rfl
                                  refine hK.out _ _ ?_
                                  clear hK K
                                  refine done_ (done_of HT_.out (by kernel_rfl)) ?_
                                  try go_wp2
                                  (try simp only [← hl5_2])
                                  go_roundg k2
                                  case measure => have := HK1.out; have := HK2.out; omega
                                  case rel => exact ⟨(y110), (wrap64 (x26_2 + 1)), (by first | rfl | (simp; done) | (simp [*]; done)), H', ⟨by have := HK1.out; have := HK2.out; omega⟩, ⟨by (try simp only [hl5_1]); (try simp only [hl5_2]); (with_reducible repeat (first | apply Kd.R_alloc | apply Kd.R_drewN | apply Kd.R_drew)); exact HQ21.out⟩, ⟨by repeat (first | (with_reducible first | exact HB.out | apply below_alloc | apply pw_below_drewN | apply below_drew1 | refine below_set ?_ GB19.out) | exact HB.out)⟩⟩
                                · rw [if_neg c17] at H
                                  exact absurd H (by simp)
                              · rw [if_neg c16] at H
                                exact absurd H (by simp)
                            · rw [if_neg c15] at H
                              exact absurd H (by simp)
                          · rw [if_neg c14] at H
                            exact absurd H (by simp)
                        · rw [if_neg c13] at H
                          exact absurd H (by simp)
                      · rw [if_neg c12] at H
                        exact absurd H (by simp)
                    · rw [if_neg c11] at H
                      have c11b0 : decide (x26_2 < (l0.length : Int)) = false := decide_eq_false c11
                      clear c11
                      have H' := Aside0.mk H
                      clear H
                      go_wp2
                      (try simp only [← hl5_1, ← hl5_2])
                      go_roundg k2
                      case measure => have := HK1.out; have := HK2.out; omega
                      case rel => exact ⟨(x5_2), (wrap64 (x21_1 + 1)), (by first | rfl | (simp; done) | (simp [*]; done)), H', ⟨by have := HK1.out; have := HK2.out; omega⟩, ⟨by (try simp only [hl5_1]); (try simp only [hl5_2]); (with_reducible repeat (first | apply Kd.R_alloc | apply Kd.R_drewN | apply Kd.R_drew)); exact HO_5.out⟩, ⟨by repeat (first | (with_reducible first | exact HB.out | apply below_alloc | apply pw_below_drewN | apply below_drew1) | exact HB.out)⟩⟩
              · rw [if_neg c10] at H
                have c10b0 : decide (x21_1 < (y102.length : Int)) = false := decide_eq_false c10
                have c10b0h := c10b0
                (try rw [hl5_1] at c10b0h)
                (try rw [hl5_2] at c10b0h)
                clear c10
                obtain rfl := Option.some.inj H
                go_wp2
                go_ret
                exact ⟨_, by first | rfl | (simp [errW_none, errW_some] <;> rfl) | (simp [*, errW_none, errW_some] <;> rfl), by (with_reducible repeat (first | apply Kd.R_alloc | apply Kd.R_drewN | apply Kd.R_drew)); exact HO_5.out, by repeat (first | (with_reducible first | exact HB.out | apply below_alloc | apply pw_below_drewN | apply below_drew1) | exact HB.out)⟩
        · rw [if_neg c6] at H
          exact absurd H (by simp)
      · rw [if_neg c5] at H
        exact absurd H (by simp)
    · rw [if_neg c4] at H
      exact absurd H (by simp)
  · rw [if_neg c3] at H
    exact absurd H (by simp)

/-! ### reedsolomon_DoorRowTimes: function 33 -/
def reedsolomon_DoorRowTimes.f (k : Nat) (l0 : List Int) (l1 : List (List Int)) : Option (List Int) := (reedsolomon_multiplyRowWithMatrix.f k l0 l1).bind fun t111 => (some t111)
theorem reedsolomon_DoorRowTimes.mono : ∀ a0 a1 k, LeO (reedsolomon_DoorRowTimes.f k a0 a1) (reedsolomon_DoorRowTimes.f (k + 1) a0 a1) := by
  intro a0 a1 k
  unfold reedsolomon_DoorRowTimes.f
  repeat' first
      | (with_reducible exact reedsolomon_multiplyRowWithMatrix.mono _ _ _)
      | (with_reducible exact LeO.refl _)
      | (with_reducible exact LeO.none _)
      | (with_reducible refine LeO.ite ?_ ?_)
      | (with_reducible refine LeO.bind ?_ (fun _ => ?_))
      | exact reedsolomon_multiplyRowWithMatrix.mono _ _ _
      | exact LeO.none _
      | refine LeO.ite ?_ ?_
      | refine LeO.bind ?_ (fun _ => ?_)
set_option maxHeartbeats 8000000 in
set_option maxRecDepth 100000 in
theorem reedsolomon_DoorRowTimes.calls (k : Nat) (A0 : Option Addr) (c0 : Nat) (l0 : List Int) (A1 : Option Addr) (c1 : Nat) (l1 : List (List Int)) (r : List Int) (w : World) (hG : Glob w) (hr0 : Kd.C (Kd.int .u8) w A0 l0.length l0) (hc0 : l0.length ≤ c0) (hr1 : Kd.C (Kd.slice 5 (Kd.int .u8)) w A1 l1.length l1) (hc1 : l1.length ≤ c1) (h : reedsolomon_DoorRowTimes.f k l0 l1 = some r) :
    Calls Tryd.prog 33 #[.slice A0 l0.length c0, .slice A1 l1.length c1] w fun e w' => ∃ v0_ : Value, e = .returned (v0_) ∧ Kd.R (Kd.int .u8) 5 w' w.heap.size (fun _ => True) v0_ r ∧ Below w.heap.size w w' := by
  have HR0 := Aside0.mk hr0
  have HC0 := Aside0.mk hc0
  clear hr0 hc0
  have HR1 := Aside0.mk hr1
  have HC1 := Aside0.mk hc1
  clear hr1 hc1
  have HB := Aside0.mk (Below.refl w.heap.size w)
  have H : ((reedsolomon_multiplyRowWithMatrix.f k l0 l1).bind fun t111 => (some t111)) = some r := h
  clear h
  replace H := Option.bind_eq_some_iff.mp H
  obtain ⟨t111, A30, H⟩ := H
  replace H : (some t111) = some r := H
  have A3 := Aside0.mk A30
  clear A30
  obtain rfl := Option.some.inj H
  go_enter Tryd.func33, Tryd.ntmps33
  go_wp2_with (first | ((with_reducible refine gate_callee (f := 51) rfl ?_); refine goesL_ (some 7) rfl rfl Tryd.func51 (by kernel_rfl) rfl #[.slice A0 l0.length c0, .slice A1 l1.length c1] rfl (by (try simp only [List.map_toArray, List.map_cons, List.map_nil]); first | done | rfl | (simp only [List.length_drop, List.length_take]; rfl)) ?_; (with_reducible refine (reedsolomon_multiplyRowWithMatrix.calls k _ _ l0 _ _ l1 t111 _ ?side5 ?side1 ?side2 ?side3 ?side4 A3.out).mono ?_); (case side1 => repeat (first | exact HR0.out | (with_reducible refine Kd.C_alloc ?_ _) | (with_reducible refine Kd.C_drewN ?_ _) | (with_reducible refine Kd.C_drew ?_))); (case side2 => exact HC0.out); (case side3 => repeat (first | exact HR1.out | (with_reducible refine Kd.C_alloc ?_ _) | (with_reducible refine Kd.C_drewN ?_ _) | (with_reducible refine Kd.C_drew ?_))); (case side4 => exact HC1.out); (case side5 => exact Glob.below hG (by repeat (first | (with_reducible first | exact HB.out | apply below_alloc | apply pw_below_drewN | apply below_drew1) | exact HB.out))); rintro e w4 ⟨v112, rfl, ho0, hb⟩; refine ⟨_, rfl, ?_⟩; have n0_ := Aside0.mk (Kd.R_lower ho0 (below_size (by repeat (first | (with_reducible first | exact HB.out | apply below_alloc | apply pw_below_drewN | apply below_drew1) | exact HB.out)))); have n1_ := Aside0.mk (below_step (by repeat (first | (with_reducible first | exact HB.out | apply below_alloc | apply pw_below_drewN | apply below_drew1) | exact HB.out)) hb); clear HB; have HO113 := n0_; have HB := n1_; clear n0_ n1_; (try clear hb); (try clear hb2); (try clear hk); (try clear hi); (try clear ho0)))
  go_ret
  exact ⟨_, by first | rfl | (simp [errW_none, errW_some] <;> rfl) | (simp [*, errW_none, errW_some] <;> rfl), by (with_reducible repeat (first | apply Kd.R_alloc | apply Kd.R_drewN | apply Kd.R_drew)); exact HO113.out, by repeat (first | (with_reducible first | exact HB.out | apply below_alloc | apply pw_below_drewN | apply below_drew1) | exact HB.out)⟩

/-! ### impl_rows: function 34 -/
def impl_rows.l0 : Nat → List (List Int) → List (List Int) → Int → Int → Option ((List (List Int)))
  | 0, _, _, _, _ => none
  | k + 1, x3, x6, x7, x8 => if x8 < x7 then (if 0 ≤ x8 then (if x8 < (x6.length : Int) then (if ([] : List Int).length + (rd_L1 x6 x8).length < 140737488355328 then (if x3.length < 5864062014805 then (impl_rows.l0 k (x3 ++ [(([] : List Int) ++ (rd_L1 x6 x8))]) x6 x7 (wrap64 (x8 + 1))) else (none)) else (none)) else (none)) else (none)) else (some x3)
def impl_rows.f (k : Nat) (l0 : List (List Int)) : Option ((List (List Int))) := impl_rows.l0 k ([] : List (List Int)) l0 (l0.length : Int) 0
theorem impl_rows.mono_l : ∀ k, (∀ y0 y1 y2 y3, LeO (impl_rows.l0 k y0 y1 y2 y3) (impl_rows.l0 (k + 1) y0 y1 y2 y3))
  | 0 => fun _ _ _ _ r h => by simp [impl_rows.l0] at h
  | k + 1 => by
    have ih0 := impl_rows.mono_l k
    · intro y0 y1 y2 y3
      unfold impl_rows.l0
      repeat' first
      | (with_reducible exact ih0 _ _ _ _)
      | (with_reducible exact LeO.refl _)
      | (with_reducible exact LeO.none _)
      | (with_reducible refine LeO.ite ?_ ?_)
      | (with_reducible refine LeO.bind ?_ (fun _ => ?_))
      | exact ih0 _ _ _ _
      | exact LeO.none _
      | refine LeO.ite ?_ ?_
      | refine LeO.bind ?_ (fun _ => ?_)
theorem impl_rows.mono : ∀ a0 k, LeO (impl_rows.f k a0) (impl_rows.f (k + 1) a0) := by
  intro a0 k
  have ih0 := impl_rows.mono_l k
  unfold impl_rows.f
  repeat' first
      | (with_reducible exact ih0 _ _ _ _)
      | (with_reducible exact LeO.refl _)
      | (with_reducible exact LeO.none _)
      | (with_reducible refine LeO.ite ?_ ?_)
      | (with_reducible refine LeO.bind ?_ (fun _ => ?_))
      | exact ih0 _ _ _ _
      | exact LeO.none _
      | refine LeO.ite ?_ ?_
      | refine LeO.bind ?_ (fun _ => ?_)
set_option maxHeartbeats 8000000 in
set_option maxRecDepth 100000 in
theorem impl_rows.calls (k : Nat) (A0 : Option Addr) (c0 : Nat) (l0 : List (List Int)) (r : List (List Int)) (w : World) (hr0 : Kd.C (Kd.slice 5 (Kd.int .u8)) w A0 l0.length l0) (hc0 : l0.length ≤ c0) (h : impl_rows.f k l0 = some r) :
    Calls Tryd.prog 34 #[.slice A0 l0.length c0] w fun e w' => ∃ v0_ : Value, e = .returned (v0_) ∧ Kd.S (Kd.slice 5 (Kd.int .u8)) 25 w' w.heap.size (fun _ => True) v0_ r ∧ Below w.heap.size w w' := by
  have HR0 := Aside0.mk hr0
  have HC0 := Aside0.mk hc0
  clear hr0 hc0
  have HB := Aside0.mk (Below.refl w.heap.size w)
  have H : (impl_rows.l0 k ([] : List (List Int)) l0 (l0.length : Int) 0) = some r := h
  clear h
  have H' := Aside0.mk H
  clear H
  go_enter Tryd.func34, Tryd.ntmps34
  go_wp2
  try simp only [Act.put, List.setIfInBounds_toArray, List.set_cons_zero, List.set_cons_succ]
  go_loopg [3, 8] k (fun kq v3 v8 w' => ∃ (x3_1 : List (List Int)) (x8_1 : Int), v8 = .int .i64 x8_1 ∧ Aside0 (impl_rows.l0 kq x3_1 l0 (l0.length : Int) x8_1 = some r) ∧ Aside0 (kq ≤ k) ∧ Aside0 (Kd.S (Kd.slice 5 (Kd.int .u8)) 25 w' w.heap.size (fun _ => True) v3 x3_1) ∧ Aside0 (Below w.heap.size w w'))
  case atStart => exact ⟨(([] : List (List Int))), (0), (by first | rfl | (simp; done) | (simp [*]; done)), H', ⟨Nat.le_refl _⟩, ⟨by first | exact Kd.S_nil _ _ _ _ _ | exact Kd.N_nil _ _ _ _ _ | exact Kd.V_nil _ _ _ _ _ | exact Kd.Q_nil _ _ _ _ _ | exact Kd.R_nil _ _ _ _ _⟩, ⟨by repeat (first | (with_reducible first | exact HB.out | apply below_alloc | apply pw_below_drewN | apply below_drew1) | exact HB.out)⟩⟩
  case round =>
    clear H'
    obtain ⟨x3_1, x8_1, rfl, HA, HK1, HO_3, HB⟩ := hrel
    cases gk with
    | zero => exact absurd HA.out (by simp [impl_rows.l0])
    | succ k1 =>
      have H := HA.out
      clear HA
      simp only [impl_rows.l0] at H
      by_cases c2 : x8_1 < (l0.length : Int)
      · rw [if_pos c2] at H
        have c2b0 : decide (x8_1 < (l0.length : Int)) = true := decide_eq_true c2
        clear c2
        by_cases c3 : 0 ≤ x8_1
        · rw [if_pos c3] at H
          have c3b0 : decide (0 ≤ x8_1) = true := decide_eq_true c3
          clear c3
          by_cases c4 : x8_1 < (l0.length : Int)
          · rw [if_pos c4] at H
            have c4b0 : decide (x8_1 < (l0.length : Int)) = true := decide_eq_true c4
            clear c4
            by_cases c5 : ([] : List Int).length + (rd_L1 l0 x8_1).length < 140737488355328
            · rw [if_pos c5] at H
              have LMc5 := Aside0.mk c5
              clear c5
              obtain ⟨y115, hy115⟩ : ∃ y_ : List Int, y_ = (([] : List Int) ++ (rd_L1 l0 x8_1)) := ⟨_, rfl⟩
              replace H : (if x3_1.length < 5864062014805 then (impl_rows.l0 k1 (x3_1 ++ [y115]) l0 (l0.length : Int) (wrap64 (x8_1 + 1))) else (none)) = some r := by first | (rw [hy115]; with_reducible exact H) | (have H2_ := (Option.bind_some _ _).symm.trans H; rw [hy115]; with_reducible exact H2_) | (have H2_ := (Option.bind_some _ _).symm.trans H; with_reducible exact H2_) | with_reducible exact H | (rw [hy115]; exact H) | exact H
              have Ny115 := Aside0.mk hy115
              clear hy115
              by_cases c6 : x3_1.length < 5864062014805
              · rw [if_pos c6] at H
                have LMc6 := Aside0.mk c6
                clear c6
                obtain ⟨y118, hy118⟩ : ∃ y_ : List (List Int), y_ = (x3_1 ++ [y115]) := ⟨_, rfl⟩
                replace H : (impl_rows.l0 k1 y118 l0 (l0.length : Int) (wrap64 (x8_1 + 1))) = some r := by first | (rw [hy118]; with_reducible exact H) | (have H2_ := (Option.bind_some _ _).symm.trans H; rw [hy118]; with_reducible exact H2_) | (have H2_ := (Option.bind_some _ _).symm.trans H; with_reducible exact H2_) | with_reducible exact H | (rw [hy118]; exact H) | exact H
                have Ny118 := Aside0.mk hy118
                clear hy118
                have H' := Aside0.mk H
                clear H
                have p114 : 0 ≤ (x8_1 : Int) := of_decide_eq_true (by first | (with_reducible assumption) | assumption)
                have q114 : x8_1 < (l0.length : Int) := of_decide_eq_true (by first | (with_reducible assumption) | assumption)
                obtain ⟨ad114, A114_0, c114_0, e114, hx114_0, hl114_0, hi114_0⟩ := at_L1 HR0.out x8_1 p114 q114
                cases e114
                replace hx114_0 := (HB.out.cell (World.block_lt_of_cell? w _ hx114_0)).trans hx114_0
                have HR114_0 := Aside0.mk hi114_0
                have HC114_0 := Aside0.mk hl114_0
                clear hi114_0 hl114_0
                replace p114 := eq_true p114
                replace q114 := eq_true q114
                go_wp2_with (first | ((with_reducible refine gate_builtin (b := .append) (xs := #[.const (.slice none 0 0), .tmp 13]) rfl ?_); at_builtin; refine Kd.R_append_rows (Kd.int .u8) (w0 := w) w.heap.size rfl (.const (.slice none 0 0)) (.tmp 13) 25 5 (.int .u8 0) 1 rfl Tryd.underlying25 info5 rfl (by decide) (by omega) (.slice none 0 0) ([] : List Int) (rd_L1 l0 x8_1) _ _ _ (fun _ => True) (fun _ => False) rfl rfl ?aO ?aR (fun _ _ h => h) (fun _ h => h.elim) ?aF ?aB ?aS ?aL ?_; (case aR => repeat (first | exact (Kd.C_below HR114_0.out HB.out) | (with_reducible refine Kd.C_alloc ?_ _) | (with_reducible refine Kd.C_drewN ?_ _) | (with_reducible refine Kd.C_drew ?_))); (case aB => exact (by repeat (first | (with_reducible first | exact HB.out | apply below_alloc | apply pw_below_drewN | apply below_drew1) | exact HB.out))); (case aF => exact (fun _ _ => trivial)); (case aO => exact ((Kd.R_nil _ _ _ _ (fun _ => True)))); (case aS => exact (below_size (by repeat (first | (with_reducible first | exact HB.out | apply below_alloc | apply pw_below_drewN | apply below_drew1) | exact HB.out)))); (case aL => have := LMc5.out; omega); intro v116 w7 ho hb hg hat; rw [← Ny115.out] at ho; have n0_ := Aside0.mk (Kd.S_after (Kd.S_apart_nil (by (with_reducible repeat (first | apply Kd.S_alloc | apply Kd.S_drewN | apply Kd.S_drew)); exact HO_3.out)) hg hat); have n1_ := Aside0.mk (hb); have n2_ := Aside0.mk (ho); clear HO_3; clear HB; have HO_3 := n0_; have HB := n1_; have HO117 := n2_; clear n0_ n1_ n2_; clear ho hb hg hat; obtain ⟨Ao9, co9, eo9⟩ := Kd.R_slice HO117.out; subst eo9) | ((with_reducible refine gate_builtin (b := .append) (xs := #[.tmp 12, .tmp 15]) rfl ?_); at_builtin; refine Kd.S_append (Kd.slice 5 (Kd.int .u8)) (w0 := w) w.heap.size rfl (.tmp 12) (.tmp 15) 31 25 (.slice none 0 0) 24 rfl Tryd.underlying31 info25 rfl (by decide) (by omega) u3 x3_1 y115 [.slice Ao9 y115.length co9] (fun _ => True) (fun k_ => some k_ = (.slice Ao9 y115.length co9 : Value).ownBlock) rfl rfl ?aP (fun k_ hk_ => ((Kd.R_mono (ok' := fun k_ => ((fun _ => True)) k_ ∧ some k_ ≠ (u3 : Value).ownBlock) (Kd.R_apart' (HO117.out) (Kd.S_typed HO_3.out) (by decide)) (fun k_ hk => ⟨trivial, hk.2⟩))).1 k_ hk_.symm) ?aF ?aO ?aB ?aS ?aL ?_; (case aP => exact Kd.M_row (Kd.R_mono (Kd.R_tight rfl (Kd.R_mono (ok' := fun k_ => ((fun _ => True)) k_ ∧ some k_ ≠ (u3 : Value).ownBlock) (Kd.R_apart' (HO117.out) (Kd.S_typed HO_3.out) (by decide)) (fun k_ hk => ⟨trivial, hk.2⟩))) (fun _ h_ => h_))); (case aB => exact (by repeat (first | (with_reducible first | exact HB.out | apply below_alloc | apply pw_below_drewN | apply below_drew1) | exact HB.out))); (case aF => exact (fun _ _ => trivial)); (case aO => exact (by (with_reducible repeat (first | apply Kd.S_alloc | apply Kd.S_drewN | apply Kd.S_drew)); exact Kd.S_mono HO_3.out (fun k_ hk => ⟨trivial, fun e_ => hk.2 e_⟩))); (case aS => exact (below_size (by repeat (first | (with_reducible first | exact HB.out | apply below_alloc | apply pw_below_drewN | apply below_drew1) | exact HB.out)))); (case aL => have := LMc6.out; omega); intro v119 w8 ho hb hg hat; rw [← Ny118.out] at ho; have n0_ := Aside0.mk (hb); have n1_ := Aside0.mk (ho); clear HB; clear HO_3; clear HO117; have HB := n0_; have HO120 := n1_; clear n0_ n1_; clear ho hb hg hat))
                go_roundg k1
                case measure => have := HK1.out; omega
                case rel => exact ⟨(y118), (wrap64 (x8_1 + 1)), (by first | rfl | (simp; done) | (simp [*]; done)), H', ⟨by have := HK1.out; omega⟩, ⟨by (with_reducible repeat (first | apply Kd.S_alloc | apply Kd.S_drewN | apply Kd.S_drew)); exact HO120.out⟩, ⟨by repeat (first | (with_reducible first | exact HB.out | apply below_alloc | apply pw_below_drewN | apply below_drew1) | exact HB.out)⟩⟩
              · rw [if_neg c6] at H
                exact absurd H (by simp)
            · rw [if_neg c5] at H
              exact absurd H (by simp)
          · rw [if_neg c4] at H
            exact absurd H (by simp)
        · rw [if_neg c3] at H
          exact absurd H (by simp)
      · rw [if_neg c2] at H
        have c2b0 : decide (x8_1 < (l0.length : Int)) = false := decide_eq_false c2
        clear c2
        obtain rfl := Option.some.inj H
        go_wp2
        go_ret
        exact ⟨_, by first | rfl | (simp [errW_none, errW_some] <;> rfl) | (simp [*, errW_none, errW_some] <;> rfl), by (with_reducible repeat (first | apply Kd.S_alloc | apply Kd.S_drewN | apply Kd.S_drew)); exact HO_3.out, by repeat (first | (with_reducible first | exact HB.out | apply below_alloc | apply pw_below_drewN | apply below_drew1) | exact HB.out)⟩

end Go.Proofs.YtladpdeneiaaeaaDoor.PRow
