-- Written by a program of this session (wip/tools)
import Derived.Test.YtladpdeneiaaeaaDoorPRowx0
import Derived.Test.YtladpdeneiaaeaaDoorPRowx2
namespace Go.Proofs.YtladpdeneiaaeaaDoor.PRow
open Go.RowKit Go.Proofs.YtladpdeneiaaeaaDoorW.PrintWords Go.Proofs.YtladpdeneiaaeaaDoorW.PrintLast Go.Proofs.YtladpdeneiaaeaaDoorW.PrintMore
attribute [local go_sem] max2_int min2_int max_two min_two max_three min_three max_four min_four   -- for this text's walks alone
set_option linter.unusedVariables false
set_option linter.unusedSimpArgs false

/-! ### spec_product: function 48 -/
def spec_product.l0 : Nat → Int → Int → Int → Int → Option (Int)
  | 0, _, _, _, _ => none
  | k + 1, x0, x1, x5, x6 => if x6 < 32 then (if 0 ≤ x6 then (if (Go.bits .and .u32 (shr .u32 x1 x6) 1) = 1 then (spec_product.l0 k x0 x1 (Go.bits .xor .u64 x5 (shl .u64 (IntKind.u64.wrap (x0)) x6)) (wrap64 (x6 + 1))) else (spec_product.l0 k x0 x1 x5 (wrap64 (x6 + 1)))) else (none)) else (some x5)
def spec_product.f (k : Nat) (a0 : Int) (a1 : Int) : Option (Int) := spec_product.l0 k a0 a1 0 0
theorem spec_product.mono_l : ∀ k, (∀ y0 y1 y2 y3, LeO (spec_product.l0 k y0 y1 y2 y3) (spec_product.l0 (k + 1) y0 y1 y2 y3))
  | 0 => fun _ _ _ _ r h => by simp [spec_product.l0] at h
  | k + 1 => by
    have ih0 := spec_product.mono_l k
    · intro y0 y1 y2 y3
      unfold spec_product.l0
      repeat' first
      | (with_reducible exact ih0 _ _ _ _)
      | (with_reducible exact LeO.refl _)
      | (with_reducible exact LeO.none _)
      | (with_reducible refine LeO.ite ?_ ?_)
      | (with_reducible refine LeO.bind ?_ (fun _ => ?_))
      | exact ih0 _ _ _ _
      | exact LeO.none _
      | refine LeO.ite ?_ ?_
      | refine LeO.bind ?_ (fun _ => ?_)
theorem spec_product.mono : ∀ a0 a1 k, LeO (spec_product.f k a0 a1) (spec_product.f (k + 1) a0 a1) := by
  intro a0 a1 k
  have ih0 := spec_product.mono_l k
  unfold spec_product.f
  repeat' first
      | (with_reducible exact ih0 _ _ _ _)
      | (with_reducible exact LeO.refl _)
      | (with_reducible exact LeO.none _)
      | (with_reducible refine LeO.ite ?_ ?_)
      | (with_reducible refine LeO.bind ?_ (fun _ => ?_))
      | exact ih0 _ _ _ _
      | exact LeO.none _
      | refine LeO.ite ?_ ?_
      | refine LeO.bind ?_ (fun _ => ?_)
set_option maxHeartbeats 8000000 in
set_option maxRecDepth 100000 in
theorem spec_product.calls (k : Nat) (a0 : Int) (a1 : Int) (r : Int) (w : World) (h : spec_product.f k a0 a1 = some r) :
    Calls Tryd.prog 48 #[.int .u32 a0, .int .u32 a1] w fun e w' => e = .returned (.int .u64 r) ∧ Drawn0 w w' := by
  have H : (spec_product.l0 k a0 a1 0 0) = some r := h
  clear h
  have H' := Aside0.mk H
  clear H
  go_enter Tryd.func48, Tryd.ntmps48
  go_wp2
  try simp only [Act.put, List.setIfInBounds_toArray, List.set_cons_zero, List.set_cons_succ]
  go_loopg [5, 6] k (fun kq v5 v6 w' => ∃ (x5_1 : Int) (x6_1 : Int), v5 = .int .u64 x5_1 ∧ v6 = .int .i64 x6_1 ∧ Aside0 (spec_product.l0 kq a0 a1 x5_1 x6_1 = some r) ∧ Aside0 (kq ≤ k) ∧ Drawn0 w w')
  case atStart => exact ⟨(0), (0), (by first | rfl | (simp; done) | (simp [*]; done)), (by first | rfl | (simp; done) | (simp [*]; done)), H', ⟨Nat.le_refl _⟩, by repeat (first | exact Drawn0.refl _ | apply Drawn0.step)⟩
  case round =>
    clear H'
    try clear p2
    obtain ⟨x5_1, x6_1, rfl, rfl, HA, HK1, ⟨m1, rfl⟩⟩ := hrel
    cases gk with
    | zero => exact absurd HA.out (by simp [spec_product.l0])
    | succ k1 =>
      have H := HA.out
      clear HA
      simp only [spec_product.l0] at H
      by_cases c3 : x6_1 < 32
      · rw [if_pos c3] at H
        have c3b0 : decide (x6_1 < 32) = true := decide_eq_true c3
        clear c3
        by_cases c4 : 0 ≤ x6_1
        · rw [if_pos c4] at H
          have c4b0 := eq_true c4
          have c4b1 : decide (0 ≤ x6_1) = true := decide_eq_true c4
          clear c4
          obtain ⟨ji5, hji5⟩ : ∃ j_ : Int, (shr .u32 a1 x6_1) = j_ := ⟨_, rfl⟩
          replace H : (if (Go.bits .and .u32 (ji5) 1) = 1 then (spec_product.l0 k1 a0 a1 (Go.bits .xor .u64 x5_1 (shl .u64 (IntKind.u64.wrap (a0)) x6_1)) (wrap64 (x6_1 + 1))) else (spec_product.l0 k1 a0 a1 x5_1 (wrap64 (x6_1 + 1)))) = some r := by first | (rw [hji5] at H; exact H) | (simp only [hji5] at H ⊢; exact H)
          have hji5_ : (a1 / 2 ^ min x6_1.toNat 32) = ji5 := hji5
          have hji5z : x6_1 ≤ 32 → (a1 / 2 ^ x6_1.toNat) = ji5 := shr_small hji5
          by_cases c6 : (Go.bits .and .u32 (ji5) 1) = 1
          · rw [if_pos c6] at H
            have c6b0 : ((Go.bits .and .u32 (ji5) 1) == 1) = true := beq_iff_eq.mpr c6
            have c6b1 : ((Go.bits .and .u32 (ji5) 1) != 1) = false := bne_eq_false_iff_eq.mpr c6
            clear c6
            have c7b0 := eq_true (of_decide_eq_true (by first | (with_reducible assumption) | assumption) : 0 ≤ x6_1)
            obtain ⟨ji8, hji8⟩ : ∃ j_ : Int, (shl .u64 (IntKind.u64.wrap (a0)) x6_1) = j_ := ⟨_, rfl⟩
            replace H : (spec_product.l0 k1 a0 a1 (Go.bits .xor .u64 x5_1 (ji8)) (wrap64 (x6_1 + 1))) = some r := by first | (rw [hji8] at H; exact H) | (simp only [hji8] at H ⊢; exact H)
            have hji8_ : (IntKind.u64.wrap ((IntKind.u64.wrap (a0)) * 2 ^ min x6_1.toNat 64)) = ji8 := hji8
            have hji8z : x6_1 ≤ 64 → (IntKind.u64.wrap ((IntKind.u64.wrap (a0)) * 2 ^ x6_1.toNat)) = ji8 := shl_small hji8
            have H' := Aside0.mk H
            clear H
            go_wp2
            go_roundg k1
            case measure => have := HK1.out; omega
            case rel => exact ⟨(Go.bits .xor .u64 x5_1 (ji8)), (wrap64 (x6_1 + 1)), (by first | rfl | (simp; done) | (simp only [← hji8] <;> (first | rfl | simp)) | (simp [*]; done)), (by first | rfl | (simp; done) | (simp [*]; done)), H', ⟨by have := HK1.out; omega⟩, by repeat (first | exact Drawn0.refl _ | apply Drawn0.step)⟩
          · rw [if_neg c6] at H
            have c6b0 : ((Go.bits .and .u32 (ji5) 1) == 1) = false := beq_eq_false_iff_ne.mpr c6
            have c6b1 : ((Go.bits .and .u32 (ji5) 1) != 1) = true := bne_iff_ne.mpr c6
            have H' := Aside0.mk H
            clear H
            go_wp2
            go_roundg k1
            case measure => have := HK1.out; omega
            case rel => exact ⟨(x5_1), (wrap64 (x6_1 + 1)), (by first | rfl | (simp; done) | (simp [*]; done)), (by first | rfl | (simp; done) | (simp [*]; done)), H', ⟨by have := HK1.out; omega⟩, by repeat (first | exact Drawn0.refl _ | apply Drawn0.step)⟩
        · rw [if_neg c4] at H
          exact absurd H (by simp)
      · rw [if_neg c3] at H
        have c3b0 : decide (x6_1 < 32) = false := decide_eq_false c3
        clear c3
        obtain rfl := Option.some.inj H
        go_wp2
        go_ret
        exact ⟨by first | rfl | (simp; done) | (simp [*]; done), by repeat (first | exact Drawn0.refl _ | apply Drawn0.step)⟩

/-! ### spec_Mul: function 30 -/
def spec_Mul.f (k : Nat) (a0 : Int) (a1 : Int) : Option (Int) := (spec_product.f k ((a0) % 4294967296) ((a1) % 4294967296)).bind fun t138 => ((spec_remainder.f k t138 285 8).bind fun t139 => (some ((t139) % 256)))
theorem spec_Mul.mono : ∀ a0 a1 k, LeO (spec_Mul.f k a0 a1) (spec_Mul.f (k + 1) a0 a1) := by
  intro a0 a1 k
  unfold spec_Mul.f
  repeat' first
      | (with_reducible exact spec_product.mono _ _ _)
      | (with_reducible exact spec_remainder.mono _ _ _ _)
      | (with_reducible exact LeO.refl _)
      | (with_reducible exact LeO.none _)
      | (with_reducible refine LeO.ite ?_ ?_)
      | (with_reducible refine LeO.bind ?_ (fun _ => ?_))
      | exact spec_product.mono _ _ _
      | exact spec_remainder.mono _ _ _ _
      | exact LeO.none _
      | refine LeO.ite ?_ ?_
      | refine LeO.bind ?_ (fun _ => ?_)
set_option maxHeartbeats 8000000 in
set_option maxRecDepth 100000 in
theorem spec_Mul.calls (k : Nat) (a0 : Int) (a1 : Int) (r : Int) (w : World) (h : spec_Mul.f k a0 a1 = some r) :
    Calls Tryd.prog 30 #[.int .u8 a0, .int .u8 a1] w fun e w' => e = .returned (.int .u8 r) ∧ Drawn0 w w' := by
  have H : ((spec_product.f k ((a0) % 4294967296) ((a1) % 4294967296)).bind fun t138 => ((spec_remainder.f k t138 285 8).bind fun t139 => (some ((t139) % 256)))) = some r := h
  clear h
  replace H := Option.bind_eq_some_iff.mp H
  obtain ⟨t138, A30, H⟩ := H
  replace H : ((spec_remainder.f k t138 285 8).bind fun t139 => (some ((t139) % 256))) = some r := H
  have A3 := Aside0.mk A30
  clear A30
  replace H := Option.bind_eq_some_iff.mp H
  obtain ⟨t139, A40, H⟩ := H
  replace H : (some ((t139) % 256)) = some r := H
  have A4 := Aside0.mk A40
  clear A40
  obtain rfl := Option.some.inj H
  go_enter Tryd.func30, Tryd.ntmps30
  go_wp2_with (first | ((with_reducible refine gate_callee (f := 48) rfl ?_); refine goesL_ (some 9) rfl rfl Tryd.func48 (by kernel_rfl) rfl #[.int .u32 ((a0) % 4294967296), .int .u32 ((a1) % 4294967296)] rfl (by (try simp only [List.map_toArray, List.map_cons, List.map_nil]); first | done | rfl | (simp only [List.length_drop, List.length_take]; rfl)) ?_; (with_reducible refine (spec_product.calls k ((a0) % 4294967296) ((a1) % 4294967296) t138 _ A3.out).mono ?_); rintro e w' ⟨rfl, ⟨nd, rfl⟩⟩; refine ⟨_, rfl, ?_⟩) | ((with_reducible refine gate_callee (f := 47) rfl ?_); refine goesL_ (some 10) rfl rfl Tryd.func47 (by kernel_rfl) rfl #[.int .u64 t138, .int .u64 285, .int .i64 8] rfl (by (try simp only [List.map_toArray, List.map_cons, List.map_nil]); first | done | rfl | (simp only [List.length_drop, List.length_take]; rfl)) ?_; (with_reducible refine (spec_remainder.calls k t138 285 8 t139 _ A4.out).mono ?_); rintro e w' ⟨rfl, ⟨nd, rfl⟩⟩; refine ⟨_, rfl, ?_⟩))
  go_ret
  exact ⟨by first | rfl | (simp; done) | (simp [*]; done), by repeat (first | exact Drawn0.refl _ | apply Drawn0.step)⟩

/-! ### spec_Zeros: function 35 -/
def spec_Zeros.l0 : Nat → Int → List (List Int) → Int → Int → Option ((List (List Int)))
  | 0, _, _, _, _ => none
  | k + 1, x1, x5, x10, x11 => if x11 < x10 then (if 0 ≤ x1 then (if (x1 : Int).toNat ≤ 281474976710656 then (if 0 ≤ x11 then (if x11 < (x5.length : Int) then (spec_Zeros.l0 k x1 (x5.set (x11 : Int).toNat (List.replicate (x1 : Int).toNat 0)) x10 (wrap64 (x11 + 1))) else (none)) else (none)) else (none)) else (none)) else (some x5)
def spec_Zeros.f (k : Nat) (a0 : Int) (a1 : Int) : Option ((List (List Int))) := if 0 ≤ a0 then (if (a0 : Int).toNat ≤ 11728124029610 then ((some (List.replicate (a0 : Int).toNat [] : List (List Int))).bind fun y140 => (spec_Zeros.l0 k a1 y140 (y140.length : Int) 0)) else (none)) else (none)
theorem spec_Zeros.mono_l : ∀ k, (∀ y0 y1 y2 y3, LeO (spec_Zeros.l0 k y0 y1 y2 y3) (spec_Zeros.l0 (k + 1) y0 y1 y2 y3))
  | 0 => fun _ _ _ _ r h => by simp [spec_Zeros.l0] at h
  | k + 1 => by
    have ih0 := spec_Zeros.mono_l k
    · intro y0 y1 y2 y3
      unfold spec_Zeros.l0
      repeat' first
      | (with_reducible exact ih0 _ _ _ _)
      | (with_reducible exact LeO.refl _)
      | (with_reducible exact LeO.none _)
      | (with_reducible refine LeO.ite ?_ ?_)
      | (with_reducible refine LeO.bind ?_ (fun _ => ?_))
      | exact ih0 _ _ _ _
      | exact LeO.none _
      | refine LeO.ite ?_ ?_
      | refine LeO.bind ?_ (fun _ => ?_)
theorem spec_Zeros.mono : ∀ a0 a1 k, LeO (spec_Zeros.f k a0 a1) (spec_Zeros.f (k + 1) a0 a1) := by
  intro a0 a1 k
  have ih0 := spec_Zeros.mono_l k
  unfold spec_Zeros.f
  repeat' first
      | (with_reducible exact ih0 _ _ _ _)
      | (with_reducible exact LeO.refl _)
      | (with_reducible exact LeO.none _)
      | (with_reducible refine LeO.ite ?_ ?_)
      | (with_reducible refine LeO.bind ?_ (fun _ => ?_))
      | exact ih0 _ _ _ _
      | exact LeO.none _
      | refine LeO.ite ?_ ?_
      | refine LeO.bind ?_ (fun _ => ?_)
set_option maxHeartbeats 8000000 in
set_option maxRecDepth 100000 in
theorem spec_Zeros.calls (k : Nat) (a0 : Int) (a1 : Int) (r : List (List Int)) (w : World) (h : spec_Zeros.f k a0 a1 = some r) :
    Calls Tryd.prog 35 #[.int .i64 a0, .int .i64 a1] w fun e w' => ∃ v0_ : Value, e = .returned (v0_) ∧ Kd.S (Kd.slice 5 (Kd.int .u8)) 25 w' w.heap.size (fun _ => True) v0_ r ∧ Below w.heap.size w w' := by
  have HB := Aside0.mk (Below.refl w.heap.size w)
  have H : (if 0 ≤ a0 then (if (a0 : Int).toNat ≤ 11728124029610 then ((some (List.replicate (a0 : Int).toNat [] : List (List Int))).bind fun y140 => (spec_Zeros.l0 k a1 y140 (y140.length : Int) 0)) else (none)) else (none)) = some r := h
  clear h
  by_cases c3 : 0 ≤ a0
  · rw [if_pos c3] at H
    have c3b0 := eq_true c3
    have c3b1 : decide (0 ≤ a0) = true := decide_eq_true c3
    clear c3
    by_cases c4 : (a0 : Int).toNat ≤ 11728124029610
    · rw [if_pos c4] at H
      have c4b0 := eq_true c4
      have c4b1 : decide ((a0 : Int).toNat ≤ 11728124029610) = true := decide_eq_true c4
      clear c4
      obtain ⟨y140, hy140⟩ : ∃ y_ : List (List Int), y_ = (List.replicate (a0 : Int).toNat []) := ⟨_, rfl⟩
      replace H : (spec_Zeros.l0 k a1 y140 (y140.length : Int) 0) = some r := by first | (rw [hy140]; with_reducible exact H) | (have H2_ := (Option.bind_some _ _).symm.trans H; rw [hy140]; with_reducible exact H2_) | (have H2_ := (Option.bind_some _ _).symm.trans H; with_reducible exact H2_) | with_reducible exact H | (rw [hy140]; exact H) | exact H
      have Ny140 := Aside0.mk hy140
      clear hy140
      have H' := Aside0.mk H
      clear H
      go_enter Tryd.func35, Tryd.ntmps35
      go_wp2_with (first | ((with_reducible refine gate_dst (N := 8) rfl ?_); refine Kd.S_make (Kd.slice 5 (Kd.int .u8)) _ 25 rfl (N := 8) rfl 31 _ _ rfl a0 rfl rfl Tryd.underlying31 (.slice none 0 0) 24 info25 rfl (by decide) (by omega) [] (ok := fun _ => True) (okp := fun _ => True) ⟨_, rfl, Kd.R_nil _ _ _ _ _⟩ (fun _ hk => hk) trivial (of_decide_eq_true (by first | (with_reducible assumption) | assumption)) (Nat.le_trans (Nat.mul_le_mul_right _ (of_decide_eq_true (by first | (with_reducible assumption) | assumption) : a0.toNat ≤ 11728124029610)) (by omega)) (Below.refl _ _) (Nat.le_refl _) ?_; intro v141 w5 ho6 hb hg_ hnew_; clear hg_ hnew_; (first | rw [← Ny140.out] at ho6 | (simp only [Int.reduceToNat] at ho6; rw [← Ny140.out] at ho6)); have n0_ := Aside0.mk (Kd.S_lower ho6 (below_size (by repeat (first | (with_reducible first | exact HB.out | apply below_alloc | apply pw_below_drewN | apply below_drew1) | exact HB.out)))); have n1_ := Aside0.mk (below_step (by repeat (first | (with_reducible first | exact HB.out | apply below_alloc | apply pw_below_drewN | apply below_drew1) | exact HB.out)) hb); clear HB; have HO142 := n0_; have HB := n1_; clear n0_ n1_; clear hb ho6; obtain ⟨Ao7, co7, eo7⟩ := Kd.S_slice HO142.out; subst eo7))
      try simp only [Act.put, List.setIfInBounds_toArray, List.set_cons_zero, List.set_cons_succ]
      go_loopg [11] k (fun kq v11 w' => ∃ (x5_1 : List (List Int)) (x11_1 : Int), v11 = .int .i64 x11_1 ∧ Aside0 (spec_Zeros.l0 kq a1 x5_1 (y140.length : Int) x11_1 = some r) ∧ Aside0 (kq ≤ k) ∧ Aside0 (Kd.S (Kd.slice 5 (Kd.int .u8)) 25 w' w.heap.size (fun _ => True) (.slice Ao7 y140.length co7) x5_1) ∧ Aside0 (Below w.heap.size w w'))
      case atStart => exact ⟨(y140), (0), (by first | rfl | (simp; done) | (simp [*]; done)), H', ⟨Nat.le_refl _⟩, ⟨by (with_reducible repeat (first | apply Kd.S_alloc | apply Kd.S_drewN | apply Kd.S_drew)); exact HO142.out⟩, ⟨by repeat (first | (with_reducible first | exact HB.out | apply below_alloc | apply pw_below_drewN | apply below_drew1) | exact HB.out)⟩⟩
      case round =>
        clear H'
        try clear p2
        try clear c3
        try clear c3b0
        try clear c3b1
        try clear c4
        try clear c4b0
        try clear c4b1
        obtain ⟨x5_1, x11_1, rfl, HA, HK1, HO_5, HB⟩ := hrel
        have hl5_1 := (Kd.S_reads' HO_5.out).1
        rw [hl5_1] at HO_5
        (try simp only [hl5_1])
        cases gk with
        | zero => exact absurd HA.out (by simp [spec_Zeros.l0])
        | succ k1 =>
          have H := HA.out
          clear HA
          simp only [spec_Zeros.l0] at H
          by_cases c8 : x11_1 < (y140.length : Int)
          · rw [if_pos c8] at H
            have c8b0 : decide (x11_1 < (y140.length : Int)) = true := decide_eq_true c8
            have c8b0h := c8b0
            (try rw [hl5_1] at c8b0h)
            clear c8
            by_cases c9 : 0 ≤ a1
            · rw [if_pos c9] at H
              have c9b0 := eq_true c9
              have c9b1 : decide (0 ≤ a1) = true := decide_eq_true c9
              clear c9
              by_cases c10 : (a1 : Int).toNat ≤ 281474976710656
              · rw [if_pos c10] at H
                have c10b0 := eq_true c10
                have c10b1 : decide ((a1 : Int).toNat ≤ 281474976710656) = true := decide_eq_true c10
                clear c10
                obtain ⟨y143, hy143⟩ : ∃ y_ : List Int, y_ = (List.replicate (a1 : Int).toNat 0) := ⟨_, rfl⟩
                replace H : (if 0 ≤ x11_1 then (if x11_1 < (x5_1.length : Int) then (spec_Zeros.l0 k1 a1 (x5_1.set (x11_1 : Int).toNat y143) (y140.length : Int) (wrap64 (x11_1 + 1))) else (none)) else (none)) = some r := by first | (rw [hy143]; with_reducible exact H) | (have H2_ := (Option.bind_some _ _).symm.trans H; rw [hy143]; with_reducible exact H2_) | (have H2_ := (Option.bind_some _ _).symm.trans H; with_reducible exact H2_) | with_reducible exact H | (rw [hy143]; exact H) | exact H
                have Ny143 := Aside0.mk hy143
                clear hy143
                by_cases c11 : 0 ≤ x11_1
                · rw [if_pos c11] at H
                  have c11b0 : decide (0 ≤ x11_1) = true := decide_eq_true c11
                  clear c11
                  by_cases c12 : x11_1 < (x5_1.length : Int)
                  · rw [if_pos c12] at H
                    have c12b0 : decide (x11_1 < (x5_1.length : Int)) = true := decide_eq_true c12
                    clear c12
                    obtain ⟨y146, hy146⟩ : ∃ y_ : List (List Int), y_ = (x5_1.set (x11_1 : Int).toNat y143) := ⟨_, rfl⟩
                    replace H : (spec_Zeros.l0 k1 a1 y146 (y140.length : Int) (wrap64 (x11_1 + 1))) = some r := by first | (rw [hy146]; with_reducible exact H) | (have H2_ := (Option.bind_some _ _).symm.trans H; rw [hy146]; with_reducible exact H2_) | (have H2_ := (Option.bind_some _ _).symm.trans H; with_reducible exact H2_) | with_reducible exact H | (rw [hy146]; exact H) | exact H
                    have Ny146 := Aside0.mk hy146
                    clear hy146
                    have H' := Aside0.mk H
                    clear H
                    go_wp2_with (first | ((with_reducible refine gate_dst (N := 17) rfl ?_); refine Kd.R_make (Kd.int .u8) _ 5 rfl (N := 17) rfl 25 _ _ rfl a1 rfl rfl Tryd.underlying25 (.int .u8 0) 1 info5 rfl (by decide) (by omega) 0 (ok := fun _ => True) (okp := fun _ => True) rfl (fun _ hk => hk) trivial (of_decide_eq_true (by first | (with_reducible assumption) | assumption)) (Nat.le_trans (Nat.mul_le_mul_right _ (of_decide_eq_true (by first | (with_reducible assumption) | assumption) : a1.toNat ≤ 281474976710656)) (by omega)) (Below.refl _ _) (Nat.le_refl _) ?_; intro v144 w14 ho15 hb hg_ hnew_; clear hg_ hnew_; (first | rw [← Ny143.out] at ho15 | (simp only [Int.reduceToNat] at ho15; rw [← Ny143.out] at ho15)); have n0_ := Aside0.mk (Kd.S_elder' (by (with_reducible repeat (first | apply Kd.S_alloc | apply Kd.S_drewN | apply Kd.S_drew)); exact HO_5.out) (Kd.R_base ho15) hb); have n1_ := Aside0.mk (Kd.R_lower ho15 (below_size (by repeat (first | (with_reducible first | exact HB.out | apply below_alloc | apply pw_below_drewN | apply below_drew1) | exact HB.out)))); have n2_ := Aside0.mk (below_step (by repeat (first | (with_reducible first | exact HB.out | apply below_alloc | apply pw_below_drewN | apply below_drew1) | exact HB.out)) hb); clear HO_5; clear HB; have HO_5 := n0_; have HO145 := n1_; have HB := n2_; clear n0_ n1_ n2_; clear hb ho15; have p13 : 0 ≤ (x11_1 : Int) := of_decide_eq_true (by first | (with_reducible assumption) | assumption); have q13 : (x11_1 : Int) < ((x5_1.length : Int) : Int) := of_decide_eq_true (by first | (with_reducible assumption) | assumption); obtain ⟨go13, co13, eo13, gb13, gl13, cl13, HG13⟩ := Kd.S_form HO_5.out (by omega); (first | cases eo13 | (injection eo13 with ea_ en_ ec_; (first | subst ea_ | (injection ea_ with ea_; subst ea_)); subst ec_; clear en_)); have GB13 := Aside0.mk gb13; have GG13 := Aside0.mk HG13; clear gb13 gl13 HG13; obtain ⟨_, ce13, hcl13, hM13, hcc13, hfr13, _, _⟩ := Kd.S_elem HO_5.out [] (x11_1 : Int) p13 q13; obtain ⟨ve13_0, rfl, ge13_0⟩ := hM13; have hx13_0 := hcc13 0 _ rfl; have hf13_0 := hfr13 0; (try simp only [show ((Kd.slice 5 (Kd.int .u8))).sz = 1 from rfl, Nat.mul_one, Nat.add_zero] at hx13_0); (try simp only [show ((Kd.slice 5 (Kd.int .u8))).sz = 1 from rfl, Nat.mul_one, Nat.add_zero] at hf13_0); (try clear hM13); clear hcl13 hcc13 hfr13; replace p13 := eq_true p13; replace q13 := eq_true q13; have n_ := Aside0.mk (Kd.S_mono (ok' := (fun k_ => some k_ ≠ (v144 : Value).ownBlock)) HO_5.out (fun k_ hk => hk.2)); clear HO_5; have HO_5 := n_; clear n_; have HX16 := Aside0.mk (show Kd.S (Kd.slice 5 (Kd.int .u8)) 25 w14 w.heap.size (fun k_ => ((fun _ => True)) k_ ∧ ¬ ((fun k_ => some k_ = (v144 : Value).ownBlock)) k_) (.slice (some ⟨go13, 0, none⟩) x5_1.length co7) x5_1 from (by (with_reducible repeat (first | apply Kd.S_alloc | apply Kd.S_drewN | apply Kd.S_drew)); exact Kd.S_mono HO_5.out (fun k_ hk => ⟨trivial, fun e_ => hk e_⟩))); obtain ⟨oki16, ce16, hcl16, hM16, hcc16, hfr16, hoki16, hH16⟩ := Kd.S_elem HX16.out [] (x11_1 : Int) (of_decide_eq_true (by first | (with_reducible assumption) | assumption)) (by have h_ : (x11_1 : Int) < ((x5_1.length : Int) : Int) := of_decide_eq_true (by first | (with_reducible assumption) | assumption); first | exact h_ | (have e_ := (Kd.S_reads' HO_5.out).1; omega) | simpa using h_); obtain ⟨ve16_0, rfl, ge16_0⟩ := hM16; have HP16 := Kd.S_seg hH16 (of_decide_eq_true (by first | (with_reducible assumption) | assumption)) (by have h_ : (x11_1 : Int) < ((x5_1.length : Int) : Int) := of_decide_eq_true (by first | (with_reducible assumption) | assumption); first | exact h_ | (have e_ := (Kd.S_reads' HO_5.out).1; omega) | simpa using h_) (seg := [v144]) (j := 0) (show 1 ≤ 1 from by decide) (x' := y143) (Kd.M_row (Kd.R_mono (Kd.R_tight rfl (Kd.R_mono (ok' := fun k_ => ((fun _ => True)) k_ ∧ k_ ≠ go13) (Kd.R_apart' (HO145.out) (Kd.S_typed HO_5.out) (by decide)) (fun k_ hk => ⟨trivial, fun e_ => (hk.2) (by rw [e_]; rfl)⟩))) (fun _ h_ => Or.inr (h_)))) (fun _ hk => hk) (fun k_ hk_ => ((Kd.R_mono (ok' := fun k_ => ((fun _ => True)) k_ ∧ k_ ≠ go13) (Kd.R_apart' (HO145.out) (Kd.S_typed HO_5.out) (by decide)) (fun k_ hk => ⟨trivial, fun e_ => (hk.2) (by rw [e_]; rfl)⟩))).1 k_ hk_.symm); have hx16_0 := hcc16 0 _ rfl; (try simp only [show ((Kd.slice 5 (Kd.int .u8))).sz = 1 from rfl, Nat.mul_one, Nat.add_zero] at hx16_0); have hf16_0 := hfr16 0; (try simp only [show ((Kd.slice 5 (Kd.int .u8))).sz = 1 from rfl, Nat.mul_one, Nat.add_zero] at hf16_0); (try clear hM16); clear hcl16 hcc16 hfr16 hoki16 hH16; (try simp only [show ((Kd.slice 5 (Kd.int .u8))).sz = 1 from rfl, Nat.mul_one, Nat.add_zero] at HP16)) | ((with_reducible refine gate_store (t := 25) (p := 18) rfl ?_); refine store_event (t := 25) (p := 18) (v := ?vo_w17) (w1 := (w14.setCell ⟨go13, (x11_1 : Int).toNat, none⟩ (v144))) ?hg ?ho ?hn ?hr ?_; (case ho => rfl); (case hg => rfl); (case hn => rfl); (case hr => first | (go_simp; done) | (go_simp; rfl) | (obtain ⟨_, _, e_⟩ := Kd.R_slice HO145.out; subst e_; first | (go_simp; done) | (go_simp; rfl))); intro w17 hw; have hg : w14.grownBy w17 (some go13) := (by rw [hw]; exact HP16.2); have hp_ : Kd.S (Kd.slice 5 (Kd.int .u8)) 25 w17 w.heap.size (fun _ => True) (.slice (some ⟨go13, 0, none⟩) x5_1.length co7) y146 := (by rw [hw, Ny146.out]; exact HP16.1); clear HP16; have n0_ := Aside0.mk (hp_); have n1_ := Aside0.mk ((by rw [hw]; exact below_set (HB.out) GB13.out : Below w.heap.size w w17)); clear HO_5; clear HB; clear HO145; have HO_5 := n0_; have HB := n1_; clear n0_ n1_; clear hg hw hp_))
                    (try simp only [← hl5_1])
                    go_roundg k1
                    case measure => have := HK1.out; omega
                    case rel => exact ⟨(y146), (wrap64 (x11_1 + 1)), (by first | rfl | (simp; done) | (simp [*]; done)), H', ⟨by have := HK1.out; omega⟩, ⟨by (try simp only [hl5_1]); (with_reducible repeat (first | apply Kd.S_alloc | apply Kd.S_drewN | apply Kd.S_drew)); exact HO_5.out⟩, ⟨by repeat (first | (with_reducible first | exact HB.out | apply below_alloc | apply pw_below_drewN | apply below_drew1) | exact HB.out)⟩⟩
                  · rw [if_neg c12] at H
                    exact absurd H (by simp)
                · rw [if_neg c11] at H
                  exact absurd H (by simp)
              · rw [if_neg c10] at H
                exact absurd H (by simp)
            · rw [if_neg c9] at H
              exact absurd H (by simp)
          · rw [if_neg c8] at H
            have c8b0 : decide (x11_1 < (y140.length : Int)) = false := decide_eq_false c8
            have c8b0h := c8b0
            (try rw [hl5_1] at c8b0h)
            clear c8
            obtain rfl := Option.some.inj H
            go_wp2
            go_ret
            exact ⟨_, by first | rfl | (simp [errW_none, errW_some] <;> rfl) | (simp [*, errW_none, errW_some] <;> rfl), by (with_reducible repeat (first | apply Kd.S_alloc | apply Kd.S_drewN | apply Kd.S_drew)); exact HO_5.out, by repeat (first | (with_reducible first | exact HB.out | apply below_alloc | apply pw_below_drewN | apply below_drew1) | exact HB.out)⟩
    · rw [if_neg c4] at H
      exact absurd H (by simp)
  · rw [if_neg c3] at H
    exact absurd H (by simp)

end Go.Proofs.YtladpdeneiaaeaaDoor.PRow
