-- Written by a program of this session (wip/tools)
import Derived.Test.YtladpdeneiaaeaaDoorPInvx0
namespace Go.Proofs.YtladpdeneiaaeaaDoor.PInv
open Go.RowKit Go.Proofs.YtladpdeneiaaeaaDoorW.PrintWords Go.Proofs.YtladpdeneiaaeaaDoorW.PrintLast Go.Proofs.YtladpdeneiaaeaaDoorW.PrintMore
attribute [local go_sem] max2_int min2_int max_two min_two max_three min_three max_four min_four   -- for this text's walks alone
set_option linter.unusedVariables false
set_option linter.unusedSimpArgs false

/-! ### spec_Zeros: function 35 -/
def spec_Zeros.l0 : Nat → Int → List (List Int) → Int → Int → Option ((List (List Int)))
  | 0, _, _, _, _ => none
  | k + 1, x1, x5, x10, x11 => if x11 < x10 then (if 0 ≤ x1 then (if (x1 : Int).toNat ≤ 281474976710656 then (if 0 ≤ x11 then (if x11 < (x5.length : Int) then (spec_Zeros.l0 k x1 (x5.set (x11 : Int).toNat (List.replicate (x1 : Int).toNat 0)) x10 (wrap64 (x11 + 1))) else (none)) else (none)) else (none)) else (none)) else (some x5)
def spec_Zeros.f (k : Nat) (a0 : Int) (a1 : Int) : Option ((List (List Int))) := if 0 ≤ a0 then (if (a0 : Int).toNat ≤ 11728124029610 then ((some (List.replicate (a0 : Int).toNat [] : List (List Int))).bind fun y145 => (spec_Zeros.l0 k a1 y145 (y145.length : Int) 0)) else (none)) else (none)
theorem spec_Zeros.mono_l : ∀ k, (∀ y0 y1 y2 y3, LeO (spec_Zeros.l0 k y0 y1 y2 y3) (spec_Zeros.l0 (k + 1) y0 y1 y2 y3))
  | 0 => fun _ _ _ _ r h => by simp [spec_Zeros.l0] at h
  | k + 1 => by
    have ih0 := spec_Zeros.mono_l k
    · intro y0 y1 y2 y3
      unfold spec_Zeros.l0
      repeat' first
      | (with_reducible exact ih0 _ _ _ _)
      | (with_reducible exact LeO.refl _)
      | (with_reducible exact LeO.none _)
      | (with_reducible refine LeO.ite ?_ ?_)
      | (with_reducible refine LeO.bind ?_ (fun _ => ?_))
      | exact ih0 _ _ _ _
      | exact LeO.none _
      | refine LeO.ite ?_ ?_
      | refine LeO.bind ?_ (fun _ => ?_)
theorem spec_Zeros.mono : ∀ a0 a1 k, LeO (spec_Zeros.f k a0 a1) (spec_Zeros.f (k + 1) a0 a1) := by
  intro a0 a1 k
  have ih0 := spec_Zeros.mono_l k
  unfold spec_Zeros.f
  repeat' first
      | (with_reducible exact ih0 _ _ _ _)
      | (with_reducible exact LeO.refl _)
      | (with_reducible exact LeO.none _)
      | (with_reducible refine LeO.ite ?_ ?_)
      | (with_reducible refine LeO.bind ?_ (fun _ => ?_))
      | exact ih0 _ _ _ _
      | exact LeO.none _
      | refine LeO.ite ?_ ?_
      | refine LeO.bind ?_ (fun _ => ?_)
set_option maxHeartbeats 8000000 in
set_option maxRecDepth 100000 in
theorem spec_Zeros.calls (k : Nat) (a0 : Int) (a1 : Int) (r : List (List Int)) (w : World) (h : spec_Zeros.f k a0 a1 = some r) :
    Calls Tryd.prog 35 #[.int .i64 a0, .int .i64 a1] w fun e w' => ∃ v0_ : Value, e = .returned (v0_) ∧ Kd.S (Kd.slice 5 (Kd.int .u8)) 25 w' w.heap.size (fun _ => True) v0_ r ∧ Below w.heap.size w w' := by
  have HB := Aside0.mk (Below.refl w.heap.size w)
  have H : (if 0 ≤ a0 then (if (a0 : Int).toNat ≤ 11728124029610 then ((some (List.replicate (a0 : Int).toNat [] : List (List Int))).bind fun y145 => (spec_Zeros.l0 k a1 y145 (y145.length : Int) 0)) else (none)) else (none)) = some r := h
  clear h
  by_cases c3 : 0 ≤ a0
  · rw [if_pos c3] at H
    have c3b0 := eq_true c3
    have c3b1 : decide (0 ≤ a0) = true := decide_eq_true c3
    clear c3
    by_cases c4 : (a0 : Int).toNat ≤ 11728124029610
    · rw [if_pos c4] at H
      have c4b0 := eq_true c4
      have c4b1 : decide ((a0 : Int).toNat ≤ 11728124029610) = true := decide_eq_true c4
      clear c4
      obtain ⟨y145, hy145⟩ : ∃ y_ : List (List Int), y_ = (List.replicate (a0 : Int).toNat []) := ⟨_, rfl⟩
      replace H : (spec_Zeros.l0 k a1 y145 (y145.length : Int) 0) = some r := by first | (rw [hy145]; with_reducible exact H) | (have H2_ := (Option.bind_some _ _).symm.trans H; rw [hy145]; with_reducible exact H2_) | (have H2_ := (Option.bind_some _ _).symm.trans H; with_reducible exact H2_) | with_reducible exact H | (rw [hy145]; exact H) | exact H
      have Ny145 := Aside0.mk hy145
      clear hy145
      have H' := Aside0.mk H
      clear H
      go_enter Tryd.func35, Tryd.ntmps35
      go_wp2_with (first | ((with_reducible refine gate_dst (N := 8) rfl ?_); refine Kd.S_make (Kd.slice 5 (Kd.int .u8)) _ 25 rfl (N := 8) rfl 31 _ _ rfl a0 rfl rfl Tryd.underlying31 (.slice none 0 0) 24 info25 rfl (by decide) (by omega) [] (ok := fun _ => True) (okp := fun _ => True) ⟨_, rfl, Kd.R_nil _ _ _ _ _⟩ (fun _ hk => hk) trivial (of_decide_eq_true (by first | (with_reducible assumption) | assumption)) (Nat.le_trans (Nat.mul_le_mul_right _ (of_decide_eq_true (by first | (with_reducible assumption) | assumption) : a0.toNat ≤ 11728124029610)) (by omega)) (Below.refl _ _) (Nat.le_refl _) ?_; intro v146 w5 ho6 hb hg_ hnew_; clear hg_ hnew_; (first | rw [← Ny145.out] at ho6 | (simp only [Int.reduceToNat] at ho6; rw [← Ny145.out] at ho6)); have n0_ := Aside0.mk (Kd.S_lower ho6 (below_size (by repeat (first | (with_reducible first | exact HB.out | apply below_alloc | apply pw_below_drewN | apply below_drew1) | exact HB.out)))); have n1_ := Aside0.mk (below_step (by repeat (first | (with_reducible first | exact HB.out | apply below_alloc | apply pw_below_drewN | apply below_drew1) | exact HB.out)) hb); clear HB; have HO147 := n0_; have HB := n1_; clear n0_ n1_; clear hb ho6; obtain ⟨Ao7, co7, eo7⟩ := Kd.S_slice HO147.out; subst eo7))
      try simp only [Act.put, List.setIfInBounds_toArray, List.set_cons_zero, List.set_cons_succ]
      go_loopg [11] k (fun kq v11 w' => ∃ (x5_1 : List (List Int)) (x11_1 : Int), v11 = .int .i64 x11_1 ∧ Aside0 (spec_Zeros.l0 kq a1 x5_1 (y145.length : Int) x11_1 = some r) ∧ Aside0 (kq ≤ k) ∧ Aside0 (Kd.S (Kd.slice 5 (Kd.int .u8)) 25 w' w.heap.size (fun _ => True) (.slice Ao7 y145.length co7) x5_1) ∧ Aside0 (Below w.heap.size w w'))
      case atStart => exact ⟨(y145), (0), (by first | rfl | (simp; done) | (simp [*]; done)), H', ⟨Nat.le_refl _⟩, ⟨by (with_reducible repeat (first | apply Kd.S_alloc | apply Kd.S_drewN | apply Kd.S_drew)); exact HO147.out⟩, ⟨by repeat (first | (with_reducible first | exact HB.out | apply below_alloc | apply pw_below_drewN | apply below_drew1) | exact HB.out)⟩⟩
      case round =>
        clear H'
        try clear p2
        try clear c3
        try clear c3b0
        try clear c3b1
        try clear c4
        try clear c4b0
        try clear c4b1
        obtain ⟨x5_1, x11_1, rfl, HA, HK1, HO_5, HB⟩ := hrel
        have hl5_1 := (Kd.S_reads' HO_5.out).1
        rw [hl5_1] at HO_5
        (try simp only [hl5_1])
        cases gk with
        | zero => exact absurd HA.out (by simp [spec_Zeros.l0])
        | succ k1 =>
          have H := HA.out
          clear HA
          simp only [spec_Zeros.l0] at H
          by_cases c8 : x11_1 < (y145.length : Int)
          · rw [if_pos c8] at H
            have c8b0 : decide (x11_1 < (y145.length : Int)) = true := decide_eq_true c8
            have c8b0h := c8b0
            (try rw [hl5_1] at c8b0h)
            clear c8
            by_cases c9 : 0 ≤ a1
            · rw [if_pos c9] at H
              have c9b0 := eq_true c9
              have c9b1 : decide (0 ≤ a1) = true := decide_eq_true c9
              clear c9
              by_cases c10 : (a1 : Int).toNat ≤ 281474976710656
              · rw [if_pos c10] at H
                have c10b0 := eq_true c10
                have c10b1 : decide ((a1 : Int).toNat ≤ 281474976710656) = true := decide_eq_true c10
                clear c10
                obtain ⟨y148, hy148⟩ : ∃ y_ : List Int, y_ = (List.replicate (a1 : Int).toNat 0) := ⟨_, rfl⟩
                replace H : (if 0 ≤ x11_1 then (if x11_1 < (x5_1.length : Int) then (spec_Zeros.l0 k1 a1 (x5_1.set (x11_1 : Int).toNat y148) (y145.length : Int) (wrap64 (x11_1 + 1))) else (none)) else (none)) = some r := by first | (rw [hy148]; with_reducible exact H) | (have H2_ := (Option.bind_some _ _).symm.trans H; rw [hy148]; with_reducible exact H2_) | (have H2_ := (Option.bind_some _ _).symm.trans H; with_reducible exact H2_) | with_reducible exact H | (rw [hy148]; exact H) | exact H
                have Ny148 := Aside0.mk hy148
                clear hy148
                by_cases c11 : 0 ≤ x11_1
                · rw [if_pos c11] at H
                  have c11b0 : decide (0 ≤ x11_1) = true := decide_eq_true c11
                  clear c11
                  by_cases c12 : x11_1 < (x5_1.length : Int)
                  · rw [if_pos c12] at H
                    have c12b0 : decide (x11_1 < (x5_1.length : Int)) = true := decide_eq_true c12
                    clear c12
                    obtain ⟨y151, hy151⟩ : ∃ y_ : List (List Int), y_ = (x5_1.set (x11_1 : Int).toNat y148) := ⟨_, rfl⟩
                    replace H : (spec_Zeros.l0 k1 a1 y151 (y145.length : Int) (wrap64 (x11_1 + 1))) = some r := by first | (rw [hy151]; with_reducible exact H) | (have H2_ := (Option.bind_some _ _).symm.trans H; rw [hy151]; with_reducible exact H2_) | (have H2_ := (Option.bind_some _ _).symm.trans H; with_reducible exact H2_) | with_reducible exact H | (rw [hy151]; exact H) | exact H
                    have Ny151 := Aside0.mk hy151
                    clear hy151
                    have H' := Aside0.mk H
                    clear H
                    go_wp2_with (first | ((with_reducible refine gate_dst (N := 17) rfl ?_); refine Kd.R_make (Kd.int .u8) _ 5 rfl (N := 17) rfl 25 _ _ rfl a1 rfl rfl Tryd.underlying25 (.int .u8 0) 1 info5 rfl (by decide) (by omega) 0 (ok := fun _ => True) (okp := fun _ => True) rfl (fun _ hk => hk) trivial (of_decide_eq_true (by first | (with_reducible assumption) | assumption)) (Nat.le_trans (Nat.mul_le_mul_right _ (of_decide_eq_true (by first | (with_reducible assumption) | assumption) : a1.toNat ≤ 281474976710656)) (by omega)) (Below.refl _ _) (Nat.le_refl _) ?_; intro v149 w14 ho15 hb hg_ hnew_; clear hg_ hnew_; (first | rw [← Ny148.out] at ho15 | (simp only [Int.reduceToNat] at ho15; rw [← Ny148.out] at ho15)); have n0_ := Aside0.mk (Kd.S_elder' (by (with_reducible repeat (first | apply Kd.S_alloc | apply Kd.S_drewN | apply Kd.S_drew)); exact HO_5.out) (Kd.R_base ho15) hb); have n1_ := Aside0.mk (Kd.R_lower ho15 (below_size (by repeat (first | (with_reducible first | exact HB.out | apply below_alloc | apply pw_below_drewN | apply below_drew1) | exact HB.out)))); have n2_ := Aside0.mk (below_step (by repeat (first | (with_reducible first | exact HB.out | apply below_alloc | apply pw_below_drewN | apply below_drew1) | exact HB.out)) hb); clear HO_5; clear HB; have HO_5 := n0_; have HO150 := n1_; have HB := n2_; clear n0_ n1_ n2_; clear hb ho15; have p13 : 0 ≤ (x11_1 : Int) := of_decide_eq_true (by first | (with_reducible assumption) | assumption); have q13 : (x11_1 : Int) < ((x5_1.length : Int) : Int) := of_decide_eq_true (by first | (with_reducible assumption) | assumption); obtain ⟨go13, co13, eo13, gb13, gl13, cl13, HG13⟩ := Kd.S_form HO_5.out (by omega); (first | cases eo13 | (injection eo13 with ea_ en_ ec_; (first | subst ea_ | (injection ea_ with ea_; subst ea_)); subst ec_; clear en_)); have GB13 := Aside0.mk gb13; have GG13 := Aside0.mk HG13; clear gb13 gl13 HG13; obtain ⟨_, ce13, hcl13, hM13, hcc13, hfr13, _, _⟩ := Kd.S_elem HO_5.out [] (x11_1 : Int) p13 q13; obtain ⟨ve13_0, rfl, ge13_0⟩ := hM13; have hx13_0 := hcc13 0 _ rfl; have hf13_0 := hfr13 0; (try simp only [show ((Kd.slice 5 (Kd.int .u8))).sz = 1 from rfl, Nat.mul_one, Nat.add_zero] at hx13_0); (try simp only [show ((Kd.slice 5 (Kd.int .u8))).sz = 1 from rfl, Nat.mul_one, Nat.add_zero] at hf13_0); (try clear hM13); clear hcl13 hcc13 hfr13; replace p13 := eq_true p13; replace q13 := eq_true q13; have n_ := Aside0.mk (Kd.S_mono (ok' := (fun k_ => some k_ ≠ (v149 : Value).ownBlock)) HO_5.out (fun k_ hk => hk.2)); clear HO_5; have HO_5 := n_; clear n_; have HX16 := Aside0.mk (show Kd.S (Kd.slice 5 (Kd.int .u8)) 25 w14 w.heap.size (fun k_ => ((fun _ => True)) k_ ∧ ¬ ((fun k_ => some k_ = (v149 : Value).ownBlock)) k_) (.slice (some ⟨go13, 0, none⟩) x5_1.length co7) x5_1 from (by (with_reducible repeat (first | apply Kd.S_alloc | apply Kd.S_drewN | apply Kd.S_drew)); exact Kd.S_mono HO_5.out (fun k_ hk => ⟨trivial, fun e_ => hk e_⟩))); obtain ⟨oki16, ce16, hcl16, hM16, hcc16, hfr16, hoki16, hH16⟩ := Kd.S_elem HX16.out [] (x11_1 : Int) (of_decide_eq_true (by first | (with_reducible assumption) | assumption)) (by have h_ : (x11_1 : Int) < ((x5_1.length : Int) : Int) := of_decide_eq_true (by first | (with_reducible assumption) | assumption); first | exact h_ | (have e_ := (Kd.S_reads' HO_5.out).1; omega) | simpa using h_); obtain ⟨ve16_0, rfl, ge16_0⟩ := hM16; have HP16 := Kd.S_seg hH16 (of_decide_eq_true (by first | (with_reducible assumption) | assumption)) (by have h_ : (x11_1 : Int) < ((x5_1.length : Int) : Int) := of_decide_eq_true (by first | (with_reducible assumption) | assumption); first | exact h_ | (have e_ := (Kd.S_reads' HO_5.out).1; omega) | simpa using h_) (seg := [v149]) (j := 0) (show 1 ≤ 1 from by decide) (x' := y148) (Kd.M_row (Kd.R_mono (Kd.R_tight rfl (Kd.R_mono (ok' := fun k_ => ((fun _ => True)) k_ ∧ k_ ≠ go13) (Kd.R_apart' (HO150.out) (Kd.S_typed HO_5.out) (by decide)) (fun k_ hk => ⟨trivial, fun e_ => (hk.2) (by rw [e_]; rfl)⟩))) (fun _ h_ => Or.inr (h_)))) (fun _ hk => hk) (fun k_ hk_ => ((Kd.R_mono (ok' := fun k_ => ((fun _ => True)) k_ ∧ k_ ≠ go13) (Kd.R_apart' (HO150.out) (Kd.S_typed HO_5.out) (by decide)) (fun k_ hk => ⟨trivial, fun e_ => (hk.2) (by rw [e_]; rfl)⟩))).1 k_ hk_.symm); have hx16_0 := hcc16 0 _ rfl; (try simp only [show ((Kd.slice 5 (Kd.int .u8))).sz = 1 from rfl, Nat.mul_one, Nat.add_zero] at hx16_0); have hf16_0 := hfr16 0; (try simp only [show ((Kd.slice 5 (Kd.int .u8))).sz = 1 from rfl, Nat.mul_one, Nat.add_zero] at hf16_0); (try clear hM16); clear hcl16 hcc16 hfr16 hoki16 hH16; (try simp only [show ((Kd.slice 5 (Kd.int .u8))).sz = 1 from rfl, Nat.mul_one, Nat.add_zero] at HP16)) | ((with_reducible refine gate_store (t := 25) (p := 18) rfl ?_); refine store_event (t := 25) (p := 18) (v := ?vo_w17) (w1 := (w14.setCell ⟨go13, (x11_1 : Int).toNat, none⟩ (v149))) ?hg ?ho ?hn ?hr ?_; (case ho => rfl); (case hg => rfl); (case hn => rfl); (case hr => first | (go_simp; done) | (go_simp; rfl) | (obtain ⟨_, _, e_⟩ := Kd.R_slice HO150.out; subst e_; first | (go_simp; done) | (go_simp; rfl))); intro w17 hw; have hg : w14.grownBy w17 (some go13) := (by rw [hw]; exact HP16.2); have hp_ : Kd.S (Kd.slice 5 (Kd.int .u8)) 25 w17 w.heap.size (fun _ => True) (.slice (some ⟨go13, 0, none⟩) x5_1.length co7) y151 := (by rw [hw, Ny151.out]; exact HP16.1); clear HP16; have n0_ := Aside0.mk (hp_); have n1_ := Aside0.mk ((by rw [hw]; exact below_set (HB.out) GB13.out : Below w.heap.size w w17)); clear HO_5; clear HB; clear HO150; have HO_5 := n0_; have HB := n1_; clear n0_ n1_; clear hg hw hp_))
                    (try simp only [← hl5_1])
                    go_roundg k1
                    case measure => have := HK1.out; omega
                    case rel => exact ⟨(y151), (wrap64 (x11_1 + 1)), (by first | rfl | (simp; done) | (simp [*]; done)), H', ⟨by have := HK1.out; omega⟩, ⟨by (try simp only [hl5_1]); (with_reducible repeat (first | apply Kd.S_alloc | apply Kd.S_drewN | apply Kd.S_drew)); exact HO_5.out⟩, ⟨by repeat (first | (with_reducible first | exact HB.out | apply below_alloc | apply pw_below_drewN | apply below_drew1) | exact HB.out)⟩⟩
                  · rw [if_neg c12] at H
                    exact absurd H (by simp)
                · rw [if_neg c11] at H
                  exact absurd H (by simp)
              · rw [if_neg c10] at H
                exact absurd H (by simp)
            · rw [if_neg c9] at H
              exact absurd H (by simp)
          · rw [if_neg c8] at H
            have c8b0 : decide (x11_1 < (y145.length : Int)) = false := decide_eq_false c8
            have c8b0h := c8b0
            (try rw [hl5_1] at c8b0h)
            clear c8
            obtain rfl := Option.some.inj H
            go_wp2
            go_ret
            exact ⟨_, by first | rfl | (simp [errW_none, errW_some] <;> rfl) | (simp [*, errW_none, errW_some] <;> rfl), by (with_reducible repeat (first | apply Kd.S_alloc | apply Kd.S_drewN | apply Kd.S_drew)); exact HO_5.out, by repeat (first | (with_reducible first | exact HB.out | apply below_alloc | apply pw_below_drewN | apply below_drew1) | exact HB.out)⟩
    · rw [if_neg c4] at H
      exact absurd H (by simp)
  · rw [if_neg c3] at H
    exact absurd H (by simp)

/-! ### spec_Unit: function 42 -/
def spec_Unit.l0 : Nat → List (List Int) → Int → Int → Option ((List (List Int)))
  | 0, _, _, _ => none
  | k + 1, x3, x9, x10 => if x10 < x9 then (if 0 ≤ x10 then (if x10 < (x3.length : Int) then (if x10 < ((rd_L1 x3 x10).length : Int) then (spec_Unit.l0 k (x3.set (x10 : Int).toNat ((rd_L1 x3 x10).set (x10 : Int).toNat 1)) x9 (wrap64 (x10 + 1))) else (none)) else (none)) else (none)) else (some x3)
def spec_Unit.f (k : Nat) (a0 : Int) : Option ((List (List Int))) := (spec_Zeros.f k a0 a0).bind fun t152 => (spec_Unit.l0 k t152 (t152.length : Int) 0)
theorem spec_Unit.mono_l : ∀ k, (∀ y0 y1 y2, LeO (spec_Unit.l0 k y0 y1 y2) (spec_Unit.l0 (k + 1) y0 y1 y2))
  | 0 => fun _ _ _ r h => by simp [spec_Unit.l0] at h
  | k + 1 => by
    have ih0 := spec_Unit.mono_l k
    · intro y0 y1 y2
      unfold spec_Unit.l0
      repeat' first
      | (with_reducible exact ih0 _ _ _)
      | (with_reducible exact spec_Zeros.mono _ _ _)
      | (with_reducible exact LeO.refl _)
      | (with_reducible exact LeO.none _)
      | (with_reducible refine LeO.ite ?_ ?_)
      | (with_reducible refine LeO.bind ?_ (fun _ => ?_))
      | exact ih0 _ _ _
      | exact spec_Zeros.mono _ _ _
      | exact LeO.none _
      | refine LeO.ite ?_ ?_
      | refine LeO.bind ?_ (fun _ => ?_)
theorem spec_Unit.mono : ∀ a0 k, LeO (spec_Unit.f k a0) (spec_Unit.f (k + 1) a0) := by
  intro a0 k
  have ih0 := spec_Unit.mono_l k
  unfold spec_Unit.f
  repeat' first
      | (with_reducible exact ih0 _ _ _)
      | (with_reducible exact spec_Zeros.mono _ _ _)
      | (with_reducible exact LeO.refl _)
      | (with_reducible exact LeO.none _)
      | (with_reducible refine LeO.ite ?_ ?_)
      | (with_reducible refine LeO.bind ?_ (fun _ => ?_))
      | exact ih0 _ _ _
      | exact spec_Zeros.mono _ _ _
      | exact LeO.none _
      | refine LeO.ite ?_ ?_
      | refine LeO.bind ?_ (fun _ => ?_)
set_option maxHeartbeats 8000000 in
set_option maxRecDepth 100000 in
theorem spec_Unit.calls (k : Nat) (a0 : Int) (r : List (List Int)) (w : World) (h : spec_Unit.f k a0 = some r) :
    Calls Tryd.prog 42 #[.int .i64 a0] w fun e w' => ∃ v0_ : Value, e = .returned (v0_) ∧ Kd.S (Kd.slice 5 (Kd.int .u8)) 25 w' w.heap.size (fun _ => True) v0_ r ∧ Below w.heap.size w w' := by
  have HB := Aside0.mk (Below.refl w.heap.size w)
  have H : ((spec_Zeros.f k a0 a0).bind fun t152 => (spec_Unit.l0 k t152 (t152.length : Int) 0)) = some r := h
  clear h
  replace H := Option.bind_eq_some_iff.mp H
  obtain ⟨t152, A20, H⟩ := H
  replace H : (spec_Unit.l0 k t152 (t152.length : Int) 0) = some r := H
  have A2 := Aside0.mk A20
  clear A20
  have H' := Aside0.mk H
  clear H
  go_enter Tryd.func42, Tryd.ntmps42
  go_wp2_with (first | ((with_reducible refine gate_callee (f := 35) rfl ?_); refine goesL_ (some 7) rfl rfl Tryd.func35 (by kernel_rfl) rfl #[.int .i64 a0, .int .i64 a0] rfl (by (try simp only [List.map_toArray, List.map_cons, List.map_nil]); first | done | rfl | (simp only [List.length_drop, List.length_take]; rfl)) ?_; (with_reducible refine (spec_Zeros.calls k a0 a0 t152 _ A2.out).mono ?_); rintro e w3 ⟨v153, rfl, ho0, hb⟩; refine ⟨_, rfl, ?_⟩; have n0_ := Aside0.mk (Kd.S_lower ho0 (below_size (by repeat (first | (with_reducible first | exact HB.out | apply below_alloc | apply pw_below_drewN | apply below_drew1) | exact HB.out)))); have n1_ := Aside0.mk (below_step (by repeat (first | (with_reducible first | exact HB.out | apply below_alloc | apply pw_below_drewN | apply below_drew1) | exact HB.out)) hb); clear HB; have HO154 := n0_; have HB := n1_; clear n0_ n1_; (try clear hb); (try clear hb2); (try clear hk); (try clear hi); (try clear ho0); obtain ⟨Ao4, co4, eo4⟩ := Kd.S_slice HO154.out; subst eo4))
  try simp only [Act.put, List.setIfInBounds_toArray, List.set_cons_zero, List.set_cons_succ]
  go_loopg [10] k (fun kq v10 w' => ∃ (x3_1 : List (List Int)) (x10_1 : Int), v10 = .int .i64 x10_1 ∧ Aside0 (spec_Unit.l0 kq x3_1 (t152.length : Int) x10_1 = some r) ∧ Aside0 (kq ≤ k) ∧ Aside0 (Kd.S (Kd.slice 5 (Kd.int .u8)) 25 w' w.heap.size (fun _ => True) (.slice Ao4 t152.length co4) x3_1) ∧ Aside0 (Below w.heap.size w w'))
  case atStart => exact ⟨(t152), (0), (by first | rfl | (simp; done) | (simp [*]; done)), H', ⟨Nat.le_refl _⟩, ⟨by (with_reducible repeat (first | apply Kd.S_alloc | apply Kd.S_drewN | apply Kd.S_drew)); exact HO154.out⟩, ⟨by repeat (first | (with_reducible first | exact HB.out | apply below_alloc | apply pw_below_drewN | apply below_drew1) | exact HB.out)⟩⟩
  case round =>
    clear H'
    try clear p2
    try clear c3
    try clear c4
    obtain ⟨x3_1, x10_1, rfl, HA, HK1, HO_3, HB⟩ := hrel
    have hl3_1 := (Kd.S_reads' HO_3.out).1
    rw [hl3_1] at HO_3
    (try simp only [hl3_1])
    cases gk with
    | zero => exact absurd HA.out (by simp [spec_Unit.l0])
    | succ k1 =>
      have H := HA.out
      clear HA
      simp only [spec_Unit.l0] at H
      by_cases c5 : x10_1 < (t152.length : Int)
      · rw [if_pos c5] at H
        have c5b0 : decide (x10_1 < (t152.length : Int)) = true := decide_eq_true c5
        have c5b0h := c5b0
        (try rw [hl3_1] at c5b0h)
        clear c5
        by_cases c6 : 0 ≤ x10_1
        · rw [if_pos c6] at H
          have c6b0 : decide (0 ≤ x10_1) = true := decide_eq_true c6
          clear c6
          by_cases c7 : x10_1 < (x3_1.length : Int)
          · rw [if_pos c7] at H
            have c7b0 : decide (x10_1 < (x3_1.length : Int)) = true := decide_eq_true c7
            clear c7
            by_cases c8 : x10_1 < ((rd_L1 x3_1 x10_1).length : Int)
            · rw [if_pos c8] at H
              have c8b0 : decide (x10_1 < ((rd_L1 x3_1 x10_1).length : Int)) = true := decide_eq_true c8
              clear c8
              obtain ⟨y156, hy156⟩ : ∃ y_ : List Int, y_ = ((rd_L1 x3_1 x10_1).set (x10_1 : Int).toNat 1) := ⟨_, rfl⟩
              replace H : (spec_Unit.l0 k1 (x3_1.set (x10_1 : Int).toNat y156) (t152.length : Int) (wrap64 (x10_1 + 1))) = some r := by first | (rw [hy156]; with_reducible exact H) | (have H2_ := (Option.bind_some _ _).symm.trans H; rw [hy156]; with_reducible exact H2_) | (have H2_ := (Option.bind_some _ _).symm.trans H; with_reducible exact H2_) | with_reducible exact H | (rw [hy156]; exact H) | exact H
              have Ny156 := Aside0.mk hy156
              clear hy156
              obtain ⟨y158, hy158⟩ : ∃ y_ : List (List Int), y_ = (x3_1.set (x10_1 : Int).toNat y156) := ⟨_, rfl⟩
              replace H : (spec_Unit.l0 k1 y158 (t152.length : Int) (wrap64 (x10_1 + 1))) = some r := by first | (rw [hy158]; with_reducible exact H) | (have H2_ := (Option.bind_some _ _).symm.trans H; rw [hy158]; with_reducible exact H2_) | (have H2_ := (Option.bind_some _ _).symm.trans H; with_reducible exact H2_) | with_reducible exact H | (rw [hy158]; exact H) | exact H
              have Ny158 := Aside0.mk hy158
              clear hy158
              have H' := Aside0.mk H
              clear H
              have p155 : 0 ≤ (x10_1 : Int) := of_decide_eq_true (by first | (with_reducible assumption) | assumption)
              have q155 : x10_1 < (x3_1.length : Int) := of_decide_eq_true (by first | (with_reducible assumption) | assumption)
              obtain ⟨ad155, A155_0, c155_0, e155, hx155_0, hl155_0, hi155_0⟩ := at_L1 (Kd.S_reads' HO_3.out).2.2 x10_1 p155 q155
              cases e155
              obtain ⟨ce155, hce155, hMe155, hcc155⟩ := Kd.S_get HO_3.out [] x10_1 p155 (by first | exact q155 | exact of_decide_eq_true (by first | (with_reducible assumption) | assumption) | (have e_ := (Kd.S_reads' HO_3.out).1; omega))
              obtain ⟨ve155_0, rfl, ge155_0⟩ := hMe155
              have hv155_0 := hcc155 0 _ rfl
              rw [Nat.add_zero, show ((Kd.slice 5 (Kd.int .u8))).sz = 1 from rfl, Nat.mul_one] at hv155_0
              replace hv155_0 := Option.some.inj (hv155_0.symm.trans hx155_0)
              rw [hv155_0] at ge155_0
              have HL155_0 := Aside0.mk (show Kd.R (Kd.int .u8) 5 _ _ _ _ (rd_L1 x3_1 x10_1) from ge155_0)
              clear hv155_0 ge155_0
              have HX155_0 := Aside0.mk hx155_0
              clear hcc155 hce155
              have HR155_0 := Aside0.mk hi155_0
              have HC155_0 := Aside0.mk hl155_0
              clear hi155_0 hl155_0
              replace p155 := eq_true p155
              replace q155 := eq_true q155
              have p9 : 0 ≤ (x10_1 : Int) := of_decide_eq_true (by first | (with_reducible assumption) | assumption)
              have q9 : (x10_1 : Int) < (((rd_L1 x3_1 x10_1).length : Int) : Int) := of_decide_eq_true (by first | (with_reducible assumption) | assumption)
              obtain ⟨go9, co9, eo9, gb9, gl9, cl9, HG9⟩ := Kd.R_form HL155_0.out (by omega)
              (first | cases eo9 | (injection eo9 with ea_ en_ ec_; (first | subst ea_ | (injection ea_ with ea_; subst ea_)); subst ec_; clear en_))
              have GB9 := Aside0.mk gb9
              have GG9 := Aside0.mk HG9
              clear gb9 gl9 HG9
              obtain ⟨hx9_0, hf9_0⟩ := Kd.R_celln 0 HL155_0.out (x10_1 : Int) p9 q9
              replace p9 := eq_true p9
              replace q9 := eq_true q9
              have hq10 : (x10_1 : Int) < (x3_1.length : Int) := (by have h_ : (x10_1 : Int) < ((x3_1.length : Int) : Int) := of_decide_eq_true (by first | (with_reducible assumption) | assumption); first | exact h_ | (have e_ := (Kd.S_reads' HO_3.out).1; omega) | simpa only [List.length_set, List.length_set] using h_)
              obtain ⟨oki10, ce10, hcl10, hM10, hcc10, hok10, hbk10⟩ := Kd.S_borrow HO_3.out [] (x10_1 : Int) (of_decide_eq_true (by first | (with_reducible assumption) | assumption)) hq10
              obtain ⟨ve10_0, rfl, ge10_0⟩ := hM10
              have hv10 := hcc10 0 _ rfl
              rw [Nat.add_zero, show ((Kd.slice 5 (Kd.int .u8))).sz = 1 from rfl, Nat.mul_one] at hv10
              replace hv10 := Option.some.inj (hv10.symm.trans HX155_0.out)
              subst hv10
              clear hcc10 hcl10
              replace ge10_0 := (show Kd.R (Kd.int .u8) 5 _ _ _ _ (rd_L1 x3_1 x10_1) from ge10_0)
              have HP10 := Kd.R_putg ge10_0 (x10_1 : Int) 1
              go_wp2_with (first | ((with_reducible refine gate_store (t := 5) (p := 18) rfl ?_); refine store_event (t := 5) (p := 18) (v := ?vo_w11) (w1 := (wr.setCell ⟨go9, (x10_1 : Int).toNat, none⟩ (.int .u8 1))) ?hg ?ho ?hn ?hr ?_; (case ho => rfl); (case hg => rfl); (case hn => rfl); (case hr => first | (go_simp; done) | (go_simp; rfl)); intro w11 hw; have hg : wr.grownBy w11 (some go9) := (by rw [hw]; exact HP10.2); have hz_ : Kd.R (Kd.int .u8) 5 w11 w.heap.size oki10 (.slice (some ⟨go9, 0, none⟩) (rd_L1 x3_1 x10_1).length c155_0) y156 := (by rw [hw, Ny156.out]; exact HP10.1); have hp_ : Kd.S (Kd.slice 5 (Kd.int .u8)) 25 w11 w.heap.size (fun _ => True) (.slice (some ad155) x3_1.length co4) y158 := (by rw [Ny158.out]; exact hbk10 hg (fun k_ e_ => by injection e_ with e_; subst e_; exact ge10_0.1 _ rfl) (Kd.M_row hz_)); have hm_ := Kd.R_mono hz_ hok10; clear HP10 hbk10; have n0_ := Aside0.mk (hp_); have n1_ := Aside0.mk ((by rw [hw]; exact below_set (HB.out) GB9.out : Below w.heap.size w w11)); have n2_ := Aside0.mk (hm_); have n3_ := Aside0.mk ((Kd.R_reads' hm_).2.1); clear HO_3; clear HB; clear HL155_0; have HO_3 := n0_; have HB := n1_; have HL159 := n2_; have HC157 := n3_; clear n0_ n1_ n2_ n3_; clear hg hw hp_ hz_ hm_ hok10))
              (try simp only [← hl3_1])
              go_roundg k1
              case measure => have := HK1.out; omega
              case rel => exact ⟨(y158), (wrap64 (x10_1 + 1)), (by first | rfl | (simp; done) | (simp [*]; done)), H', ⟨by have := HK1.out; omega⟩, ⟨by (try simp only [hl3_1]); (with_reducible repeat (first | apply Kd.S_alloc | apply Kd.S_drewN | apply Kd.S_drew)); exact HO_3.out⟩, ⟨by repeat (first | (with_reducible first | exact HB.out | apply below_alloc | apply pw_below_drewN | apply below_drew1) | exact HB.out)⟩⟩
            · rw [if_neg c8] at H
              exact absurd H (by simp)
          · rw [if_neg c7] at H
            exact absurd H (by simp)
        · rw [if_neg c6] at H
          exact absurd H (by simp)
      · rw [if_neg c5] at H
        have c5b0 : decide (x10_1 < (t152.length : Int)) = false := decide_eq_false c5
        have c5b0h := c5b0
        (try rw [hl3_1] at c5b0h)
        clear c5
        obtain rfl := Option.some.inj H
        go_wp2
        go_ret
        exact ⟨_, by first | rfl | (simp [errW_none, errW_some] <;> rfl) | (simp [*, errW_none, errW_some] <;> rfl), by (with_reducible repeat (first | apply Kd.S_alloc | apply Kd.S_drewN | apply Kd.S_drew)); exact HO_3.out, by repeat (first | (with_reducible first | exact HB.out | apply below_alloc | apply pw_below_drewN | apply below_drew1) | exact HB.out)⟩

/-! ### spec_Beside: function 41 -/
def spec_Beside.l0 : Nat → List (List Int) → List (List Int) → List (List Int) → Int → Int → Option ((List (List Int)))
  | 0, _, _, _, _, _ => none
  | k + 1, x0, x1, x5, x9, x10 => if x10 < x9 then ((some (([] : List Int) : List Int)).bind fun y163 => (if 0 ≤ x10 then (if x10 < (x0.length : Int) then (if y163.length + (rd_L1 x0 x10).length < 140737488355328 then ((some (y163 ++ (rd_L1 x0 x10) : List Int)).bind fun y167 => (if x10 < (x1.length : Int) then (if y167.length + (rd_L1 x1 x10).length < 140737488355328 then (if x5.length < 5864062014805 then (spec_Beside.l0 k x0 x1 (x5 ++ [(y167 ++ (rd_L1 x1 x10))]) x9 (wrap64 (x10 + 1))) else (none)) else (none)) else (none))) else (none)) else (none)) else (none))) else (some x5)
def spec_Beside.f (k : Nat) (l0 : List (List Int)) (l1 : List (List Int)) : Option ((List (List Int))) := spec_Beside.l0 k l0 l1 (([] : List (List Int))) (l0.length : Int) 0
theorem spec_Beside.mono_l : ∀ k, (∀ y0 y1 y2 y3 y4, LeO (spec_Beside.l0 k y0 y1 y2 y3 y4) (spec_Beside.l0 (k + 1) y0 y1 y2 y3 y4))
  | 0 => fun _ _ _ _ _ r h => by simp [spec_Beside.l0] at h
  | k + 1 => by
    have ih0 := spec_Beside.mono_l k
    · intro y0 y1 y2 y3 y4
      unfold spec_Beside.l0
      repeat' first
      | (with_reducible exact ih0 _ _ _ _ _)
      | (with_reducible exact LeO.refl _)
      | (with_reducible exact LeO.none _)
      | (with_reducible refine LeO.ite ?_ ?_)
      | (with_reducible refine LeO.bind ?_ (fun _ => ?_))
      | exact ih0 _ _ _ _ _
      | exact LeO.none _
      | refine LeO.ite ?_ ?_
      | refine LeO.bind ?_ (fun _ => ?_)
theorem spec_Beside.mono : ∀ a0 a1 k, LeO (spec_Beside.f k a0 a1) (spec_Beside.f (k + 1) a0 a1) := by
  intro a0 a1 k
  have ih0 := spec_Beside.mono_l k
  unfold spec_Beside.f
  repeat' first
      | (with_reducible exact ih0 _ _ _ _ _)
      | (with_reducible exact LeO.refl _)
      | (with_reducible exact LeO.none _)
      | (with_reducible refine LeO.ite ?_ ?_)
      | (with_reducible refine LeO.bind ?_ (fun _ => ?_))
      | exact ih0 _ _ _ _ _
      | exact LeO.none _
      | refine LeO.ite ?_ ?_
      | refine LeO.bind ?_ (fun _ => ?_)
def spec_Beside.T5 : Bool × List (List Nat × List Nat) := (true, [([], []), ([], []), ([], []), ([], []), ([2, 3], [2, 3]), ([4], [4]), ([1, 5], [1, 5]), ([], []), ([], []), ([7, 8], [7, 8]), ([9], [9]), ([6, 10, 6], [6, 10]), ([11], [11]), ([0, 12, 11], [0, 12]), ([13, 13, 0, 1, 2, 3, 4, 5, 6, 7, 8, 9, 10, 11, 12, 13], [0, 13])])
def spec_Beside.B5 : List Nat := [0, 0, 0, 0, 12, 28, 62, 0, 0, 384, 896, 2046, 4094, 8191, 16383]
theorem spec_Beside.tab5 : rtab .any (opsOf Tryd.f41 5) = spec_Beside.T5 := by kernel_rfl
theorem spec_Beside.bits5 : waitsOk spec_Beside.T5.2 spec_Beside.B5 = true := by kernel_rfl
set_option maxHeartbeats 8000000 in
set_option maxRecDepth 100000 in
theorem spec_Beside.calls (k : Nat) (A0 : Option Addr) (c0 : Nat) (l0 : List (List Int)) (A1 : Option Addr) (c1 : Nat) (l1 : List (List Int)) (r : List (List Int)) (w : World) (hr0 : Kd.C (Kd.slice 5 (Kd.int .u8)) w A0 l0.length l0) (hc0 : l0.length ≤ c0) (hr1 : Kd.C (Kd.slice 5 (Kd.int .u8)) w A1 l1.length l1) (hc1 : l1.length ≤ c1) (h : spec_Beside.f k l0 l1 = some r) :
    Calls Tryd.prog 41 #[.slice A0 l0.length c0, .slice A1 l1.length c1] w fun e w' => ∃ v0_ : Value, e = .returned (v0_) ∧ Kd.S (Kd.slice 5 (Kd.int .u8)) 25 w' w.heap.size (fun _ => True) v0_ r ∧ Below w.heap.size w w' := by
  have HR0 := Aside0.mk hr0
  have HC0 := Aside0.mk hc0
  clear hr0 hc0
  have HR1 := Aside0.mk hr1
  have HC1 := Aside0.mk hc1
  clear hr1 hc1
  have HB := Aside0.mk (Below.refl w.heap.size w)
  have H : (spec_Beside.l0 k l0 l1 (([] : List (List Int))) (l0.length : Int) 0) = some r := h
  clear h
  obtain ⟨y160, hy160⟩ : ∃ y_ : List (List Int), y_ = (([] : List (List Int))) := ⟨_, rfl⟩
  replace H : (spec_Beside.l0 k l0 l1 y160 (l0.length : Int) 0) = some r := by first | (rw [hy160]; with_reducible exact H) | (have H2_ := (Option.bind_some _ _).symm.trans H; rw [hy160]; with_reducible exact H2_) | (have H2_ := (Option.bind_some _ _).symm.trans H; with_reducible exact H2_) | with_reducible exact H | (rw [hy160]; exact H) | exact H
  have Ny160 := Aside0.mk hy160
  clear hy160
  have H' := Aside0.mk H
  clear H
  go_enter Tryd.func41, Tryd.ntmps41
  go_wp2_with (first | ((with_reducible refine gate_dst (N := 7) rfl ?_); refine Kd.S_lit (Kd.slice 5 (Kd.int .u8)) _ 25 ?hg (N := 7) ?hd (xs := ([] : List (List Int))) (inner := []) (ok := fun _ => True) (okp := fun _ => True) ?hr ?hp (fun _ hk => hk) trivial (Below.refl _ _) (Nat.le_refl _) (by simp) ?_; (case hd => rfl); (case hg => rfl); (case hr => first | (go_simp; done) | (go_simp; rfl)); (case hp => exact (Reps.none _ _)); intro v161 w3 ho4 hb hg_ hnew_; clear hg_ hnew_; (first | rw [← Ny160.out] at ho4 | (simp only [Int.reduceToNat] at ho4; rw [← Ny160.out] at ho4)); have n0_ := Aside0.mk (Kd.S_lower ho4 (below_size (by repeat (first | (with_reducible first | exact HB.out | apply below_alloc | apply pw_below_drewN | apply below_drew1) | exact HB.out)))); have n1_ := Aside0.mk (below_step (by repeat (first | (with_reducible first | exact HB.out | apply below_alloc | apply pw_below_drewN | apply below_drew1) | exact HB.out)) hb); clear HB; have HO162 := n0_; have HB := n1_; clear n0_ n1_; clear hb ho4))
  try simp only [Act.put, List.setIfInBounds_toArray, List.set_cons_zero, List.set_cons_succ]
  go_loopg [5, 10] k (fun kq v5 v10 w' => ∃ (x5_1 : List (List Int)) (x10_1 : Int), v10 = .int .i64 x10_1 ∧ Aside0 (spec_Beside.l0 kq l0 l1 x5_1 (l0.length : Int) x10_1 = some r) ∧ Aside0 (kq ≤ k) ∧ Aside0 (Kd.S (Kd.slice 5 (Kd.int .u8)) 25 w' w.heap.size (fun _ => True) v5 x5_1) ∧ Aside0 (Below w.heap.size w w'))
  case atStart => exact ⟨(y160), (0), (by first | rfl | (simp; done) | (simp [*]; done)), H', ⟨Nat.le_refl _⟩, ⟨by (with_reducible repeat (first | apply Kd.S_alloc | apply Kd.S_drewN | apply Kd.S_drew)); exact HO162.out⟩, ⟨by repeat (first | (with_reducible first | exact HB.out | apply below_alloc | apply pw_below_drewN | apply below_drew1) | exact HB.out)⟩⟩
  case round =>
    clear H'
    try clear c1
    try clear p2
    try clear c4
    obtain ⟨x5_1, x10_1, rfl, HA, HK1, HO_5, HB⟩ := hrel
    cases gk with
    | zero => exact absurd HA.out (by simp [spec_Beside.l0])
    | succ k1 =>
      have H := HA.out
      clear HA
      simp only [spec_Beside.l0] at H
      by_cases c5 : x10_1 < (l0.length : Int)
      · rw [if_pos c5] at H
        have c5b0 : decide (x10_1 < (l0.length : Int)) = true := decide_eq_true c5
        clear c5
        obtain ⟨y163, hy163⟩ : ∃ y_ : List Int, y_ = (([] : List Int)) := ⟨_, rfl⟩
        replace H : (if 0 ≤ x10_1 then (if x10_1 < (l0.length : Int) then (if y163.length + (rd_L1 l0 x10_1).length < 140737488355328 then ((some (y163 ++ (rd_L1 l0 x10_1) : List Int)).bind fun y167 => (if x10_1 < (l1.length : Int) then (if y167.length + (rd_L1 l1 x10_1).length < 140737488355328 then (if x5_1.length < 5864062014805 then (spec_Beside.l0 k1 l0 l1 (x5_1 ++ [(y167 ++ (rd_L1 l1 x10_1))]) (l0.length : Int) (wrap64 (x10_1 + 1))) else (none)) else (none)) else (none))) else (none)) else (none)) else (none)) = some r := by first | (rw [hy163]; with_reducible exact H) | (have H2_ := (Option.bind_some _ _).symm.trans H; rw [hy163]; with_reducible exact H2_) | (have H2_ := (Option.bind_some _ _).symm.trans H; with_reducible exact H2_) | with_reducible exact H | (rw [hy163]; exact H) | exact H
        have Ny163 := Aside0.mk hy163
        clear hy163
        by_cases c6 : 0 ≤ x10_1
        · rw [if_pos c6] at H
          have c6b0 : decide (0 ≤ x10_1) = true := decide_eq_true c6
          clear c6
          by_cases c7 : x10_1 < (l0.length : Int)
          · rw [if_pos c7] at H
            have c7b0 : decide (x10_1 < (l0.length : Int)) = true := decide_eq_true c7
            clear c7
            by_cases c8 : y163.length + (rd_L1 l0 x10_1).length < 140737488355328
            · rw [if_pos c8] at H
              have LMc8 := Aside0.mk c8
              clear c8
              obtain ⟨y167, hy167⟩ : ∃ y_ : List Int, y_ = (y163 ++ (rd_L1 l0 x10_1)) := ⟨_, rfl⟩
              replace H : (if x10_1 < (l1.length : Int) then (if y167.length + (rd_L1 l1 x10_1).length < 140737488355328 then (if x5_1.length < 5864062014805 then (spec_Beside.l0 k1 l0 l1 (x5_1 ++ [(y167 ++ (rd_L1 l1 x10_1))]) (l0.length : Int) (wrap64 (x10_1 + 1))) else (none)) else (none)) else (none)) = some r := by first | (rw [hy167]; with_reducible exact H) | (have H2_ := (Option.bind_some _ _).symm.trans H; rw [hy167]; with_reducible exact H2_) | (have H2_ := (Option.bind_some _ _).symm.trans H; with_reducible exact H2_) | with_reducible exact H | (rw [hy167]; exact H) | exact H
              have Ny167 := Aside0.mk hy167
              clear hy167
              by_cases c9 : x10_1 < (l1.length : Int)
              · rw [if_pos c9] at H
                have c9b0 : decide (x10_1 < (l1.length : Int)) = true := decide_eq_true c9
                clear c9
                by_cases c10 : y167.length + (rd_L1 l1 x10_1).length < 140737488355328
                · rw [if_pos c10] at H
                  have LMc10 := Aside0.mk c10
                  clear c10
                  obtain ⟨y171, hy171⟩ : ∃ y_ : List Int, y_ = (y167 ++ (rd_L1 l1 x10_1)) := ⟨_, rfl⟩
                  replace H : (if x5_1.length < 5864062014805 then (spec_Beside.l0 k1 l0 l1 (x5_1 ++ [y171]) (l0.length : Int) (wrap64 (x10_1 + 1))) else (none)) = some r := by first | (rw [hy171]; with_reducible exact H) | (have H2_ := (Option.bind_some _ _).symm.trans H; rw [hy171]; with_reducible exact H2_) | (have H2_ := (Option.bind_some _ _).symm.trans H; with_reducible exact H2_) | with_reducible exact H | (rw [hy171]; exact H) | exact H
                  have Ny171 := Aside0.mk hy171
                  clear hy171
                  by_cases c11 : x5_1.length < 5864062014805
                  · rw [if_pos c11] at H
                    have LMc11 := Aside0.mk c11
                    clear c11
                    obtain ⟨y174, hy174⟩ : ∃ y_ : List (List Int), y_ = (x5_1 ++ [y171]) := ⟨_, rfl⟩
                    replace H : (spec_Beside.l0 k1 l0 l1 y174 (l0.length : Int) (wrap64 (x10_1 + 1))) = some r := by first | (rw [hy174]; with_reducible exact H) | (have H2_ := (Option.bind_some _ _).symm.trans H; rw [hy174]; with_reducible exact H2_) | (have H2_ := (Option.bind_some _ _).symm.trans H; with_reducible exact H2_) | with_reducible exact H | (rw [hy174]; exact H) | exact H
                    have Ny174 := Aside0.mk hy174
                    clear hy174
                    have H' := Aside0.mk H
                    clear H
                    try go_wp2
                    (try (rw [drewN_self wr]; generalize hq_ : World.drewN wr _ = wr; have n0_ : Aside0 (Kd.S (Kd.slice 5 (Kd.int .u8)) 25 wr w.heap.size (fun _ => True) u5 x5_1) := ⟨by rw [← hq_]; exact (by (with_reducible repeat (first | apply Kd.S_alloc | apply Kd.S_drewN | apply Kd.S_drew)); exact HO_5.out)⟩; have n1_ : Aside0 (Below w.heap.size w wr) := ⟨by rw [← hq_]; exact (by repeat (first | (with_reducible first | exact HB.out | apply below_alloc | apply pw_below_drewN | apply below_drew1) | exact HB.out))⟩; clear HO_5 HB hq_; have HO_5 := n0_; have HB := n1_; clear n0_ n1_))
                    have n0_ := Aside0.mk (Kd.S_drew HO_5.out)
                    have n1_ := Aside0.mk (below_drew1 HB.out)
                    clear HO_5
                    clear HB
                    have HO_5 := n0_
                    have HB := n1_
                    clear n0_ n1_
                    have p166 : 0 ≤ (x10_1 : Int) := of_decide_eq_true (by first | (with_reducible assumption) | assumption)
                    have q166 : x10_1 < (l0.length : Int) := of_decide_eq_true (by first | (with_reducible assumption) | assumption)
                    obtain ⟨ad166, A166_0, c166_0, e166, hx166_0, hl166_0, hi166_0⟩ := at_L1 HR0.out x10_1 p166 q166
                    have hw166_0 := hx166_0
                    cases e166
                    replace hx166_0 := (HB.out.cell (World.block_lt_of_cell? w _ hx166_0)).trans hx166_0
                    have HR166_0 := Aside0.mk hi166_0
                    have HC166_0 := Aside0.mk hl166_0
                    clear hi166_0 hl166_0
                    replace p166 := eq_true p166
                    replace q166 := eq_true q166
                    have p170 : 0 ≤ (x10_1 : Int) := of_decide_eq_true (by first | (with_reducible assumption) | assumption)
                    have q170 : x10_1 < (l1.length : Int) := of_decide_eq_true (by first | (with_reducible assumption) | assumption)
                    obtain ⟨ad170, A170_0, c170_0, e170, hx170_0, hl170_0, hi170_0⟩ := at_L1 HR1.out x10_1 p170 q170
                    have hw170_0 := hx170_0
                    cases e170
                    replace hx170_0 := (HB.out.cell (World.block_lt_of_cell? w _ hx170_0)).trans hx170_0
                    have HR170_0 := Aside0.mk hi170_0
                    have HC170_0 := Aside0.mk hl170_0
                    clear hi170_0 hl170_0
                    replace p170 := eq_true p170
                    replace q170 := eq_true q170
                    refine start_ (n := 15) (S := fun w' => w'.cell? (ad166.add (x10_1).toNat) = some (.slice A166_0 (rd_L1 l0 x10_1).length c166_0) ∧ w'.cell? (ad170.add (x10_1).toNat) = some (.slice A170_0 (rd_L1 l1 x10_1).length c170_0)) (ds := []) #[false, false, false, false, false, false, false, false, false, false, false, false, false, false, false] (by kernel_rfl) rfl rfl ⟨((HB.out.cell (World.block_lt_of_cell? w _ hw166_0)).trans hw166_0), ((HB.out.cell (World.block_lt_of_cell? w _ hw170_0)).trans hw170_0)⟩ (fun hHeld => ?_); refine with_tabW spec_Beside.tab5 spec_Beside.bits5 (fun HT_ HW_ => ?_)
                    generalize wr.drew = w12 at HO_5 HB HR166_0 HR170_0 hx166_0 hx170_0 hHeld ⊢
                    refine pure_ (i := 0) (N := some 13) (v := ?_) (a' := ?_) #[true, false, false, false, false, false, false, false, false, false, false, false, false, false, false] rfl rfl (any_of HT_.out (by kernel_rfl)) (fun _ _ _ h => h) (Or.inl ⟨by rfl, ?_⟩) ?_ ?_
                    rotate_left
                    · intro w'
                      go_simp
                      with_reducible rfl
                    rotate_left
                    · simp only [Act.put, List.setIfInBounds_toArray, List.set_cons_zero, List.set_cons_succ, i64_w, i32_w]
                      rfl
                    refine pure_ (i := 2) (N := some 15) (v := ?_) (a' := ?_) #[true, false, true, false, false, false, false, false, false, false, false, false, false, false, false] rfl rfl (any_of HT_.out (by kernel_rfl)) (fun _ _ _ h => h) (Or.inl ⟨by rfl, ?_⟩) ?_ ?_
                    rotate_left
                    · intro w'
                      go_simp
                      with_reducible rfl
                    rotate_left
                    · simp only [Act.put, List.setIfInBounds_toArray, List.set_cons_zero, List.set_cons_succ, i64_w, i32_w]
                      rfl
                    refine pure_ (i := 3) (N := some 16) (v := ?_) (a' := ?_) #[true, false, true, true, false, false, false, false, false, false, false, false, false, false, false] rfl rfl (any_of HT_.out (by kernel_rfl)) (fun _ _ _ h => h) (Or.inl ⟨by rfl, ?_⟩) ?_ ?_
                    rotate_left
                    · intro w'
                      go_simp
                      with_reducible rfl
                    rotate_left
                    · simp only [Act.put, List.setIfInBounds_toArray, List.set_cons_zero, List.set_cons_succ, i64_w, i32_w]
                      rfl
                    refine pure_ (i := 4) (N := some 17) (v := ?_) (a' := ?_) #[true, false, true, true, true, false, false, false, false, false, false, false, false, false, false] rfl rfl (any_of HT_.out (by kernel_rfl)) (fun _ _ _ h => h) (Or.inl ⟨by rfl, ?_⟩) ?_ ?_
                    rotate_left
                    · intro w'
                      go_simp
                      with_reducible rfl
                    rotate_left
                    · simp only [Act.put, List.setIfInBounds_toArray, List.set_cons_zero, List.set_cons_succ, i64_w, i32_w]
                      rfl
                    refine pure_ (i := 7) (N := some 20) (v := ?_) (a' := ?_) #[true, false, true, true, true, false, false, true, false, false, false, false, false, false, false] rfl rfl (any_of HT_.out (by kernel_rfl)) (fun _ _ _ h => h) (Or.inl ⟨by rfl, ?_⟩) ?_ ?_
                    rotate_left
                    · intro w'
                      go_simp
                      with_reducible rfl
                    rotate_left
                    · simp only [Act.put, List.setIfInBounds_toArray, List.set_cons_zero, List.set_cons_succ, i64_w, i32_w]
                      rfl
                    refine pure_ (i := 8) (N := some 21) (v := ?_) (a' := ?_) #[true, false, true, true, true, false, false, true, true, false, false, false, false, false, false] rfl rfl (any_of HT_.out (by kernel_rfl)) (fun _ _ _ h => h) (Or.inl ⟨by rfl, ?_⟩) ?_ ?_
                    rotate_left
                    · intro w'
                      go_simp
                      with_reducible rfl
                    rotate_left
                    · simp only [Act.put, List.setIfInBounds_toArray, List.set_cons_zero, List.set_cons_succ, i64_w, i32_w]
                      rfl
                    refine pure_ (i := 9) (N := some 22) (v := ?_) (a' := ?_) #[true, false, true, true, true, false, false, true, true, true, false, false, false, false, false] rfl rfl (any_of HT_.out (by kernel_rfl)) (fun _ _ _ h => h) (Or.inl ⟨by rfl, ?_⟩) ?_ ?_
                    rotate_left
                    · intro w'
                      go_simp
                      with_reducible rfl
                    rotate_left
                    · simp only [Act.put, List.setIfInBounds_toArray, List.set_cons_zero, List.set_cons_succ, i64_w, i32_w]
                      rfl
                    refine take_ (i := 5) (N := some 18) (v := ?_) (a' := ?_) #[true, false, true, true, true, true, false, true, true, true, false, false, false, false, false] rfl rfl (take_ofW HT_.out HW_.out (by kernel_rfl)) (fun _ _ _ h => h) (Or.inl ⟨by rfl, ?_⟩) hHeld ?_ ?_
                    rotate_left
                    · rintro w' ⟨s0, s1⟩
                      go_simp
                      with_reducible rfl
                    rotate_left
                    · simp only [Act.put, List.setIfInBounds_toArray, List.set_cons_zero, List.set_cons_succ, i64_w, i32_w]
                      rfl
                    refine take_ (i := 10) (N := some 23) (v := ?_) (a' := ?_) #[true, false, true, true, true, true, false, true, true, true, true, false, false, false, false] rfl rfl (take_ofW HT_.out HW_.out (by kernel_rfl)) (fun _ _ _ h => h) (Or.inl ⟨by rfl, ?_⟩) hHeld ?_ ?_
                    rotate_left
                    · rintro w' ⟨s0, s1⟩
                      go_simp
                      with_reducible rfl
                    rotate_left
                    · simp only [Act.put, List.setIfInBounds_toArray, List.set_cons_zero, List.set_cons_succ, i64_w, i32_w]
                      rfl
                    refine one_ (i := 1) (N := some 14) #[true, true, true, true, true, true, false, true, true, true, true, false, false, false, false] rfl rfl (one_of HT_.out (by kernel_rfl)) (by decide) (fun K hK => ?_)
                    refine Kd.R_lit_step (Kd.int .u8) _ 5 ?hg (N := 14) ?hd (xs := ([] : List Int)) (inner := []) (ok := fun _ => True) (okp := fun _ => True) ?hr ?hp (fun _ hk => hk) trivial (Below.refl _ _) (Nat.le_refl _) (by simp) ?_; (case hd => rfl); (case hg => rfl); (case hr => first | (go_simp; done) | (go_simp; rfl)); (case hp => exact (Reps.none _ _))
                    intro v164 w13 ho14 hb hg_ hnew_
                    clear hg_ hnew_
                    (first | rw [← Ny163.out] at ho14 | (simp only [Int.reduceToNat] at ho14; rw [← Ny163.out] at ho14))
                    have n0_ := Aside0.mk (Kd.S_elder' (by (with_reducible repeat (first | apply Kd.S_alloc | apply Kd.S_drewN | apply Kd.S_drew)); exact HO_5.out) (Kd.R_base ho14) hb)
                    have n1_ := Aside0.mk (Kd.R_lower ho14 (below_size (by repeat (first | (with_reducible first | exact HB.out | apply below_alloc | apply pw_below_drewN | apply below_drew1) | exact HB.out))))
                    have n2_ := Aside0.mk (below_step (by repeat (first | (with_reducible first | exact HB.out | apply below_alloc | apply pw_below_drewN | apply below_drew1) | exact HB.out)) hb)
                    clear HO_5
                    clear HB
                    have HO_5 := n0_
                    have HO165 := n1_
                    have HB := n2_
                    clear n0_ n1_ n2_
                    clear hb ho14
                    refine hK.out _ _ ⟨((HB.out.cell (World.block_lt_of_cell? w _ hw166_0)).trans hw166_0), ((HB.out.cell (World.block_lt_of_cell? w _ hw170_0)).trans hw170_0)⟩ (fun hHeld => ?_)
                    clear hK K
                    refine norm_ (a' := ?_) ?_ ?_
                    rotate_left
                    · show Act.put _ (some 14) _ = _
                      simp only [Act.put, List.setIfInBounds_toArray, List.set_cons_zero, List.set_cons_succ, i64_w, i32_w]
                      rfl
                    refine one_ (i := 6) (N := some 19) #[true, true, true, true, true, true, true, true, true, true, true, false, false, false, false] rfl rfl (one_of HT_.out (by kernel_rfl)) (by decide) (fun K hK => ?_)
                    refine Kd.R_append_rows_step (Kd.int .u8) (w0 := w) w.heap.size (by rfl) (.tmp 14) (.tmp 18) 25 5 (.int .u8 0) 1 rfl Tryd.underlying25 info5 rfl (by decide) (by omega) v164 y163 (rd_L1 l0 x10_1) _ _ _ (fun _ => True) (fun _ => False) rfl rfl ?aO ?aR (fun _ _ h => h) (fun _ h => h.elim) ?aF ?aB ?aS ?aL ?_
                    (case aR => repeat (first | exact (Kd.C_below HR166_0.out HB.out) | (with_reducible refine Kd.C_alloc ?_ _) | (with_reducible refine Kd.C_drewN ?_ _) | (with_reducible refine Kd.C_drew ?_)))
                    (case aB => exact (by repeat (first | (with_reducible first | exact HB.out | apply below_alloc | apply pw_below_drewN | apply below_drew1) | exact HB.out)))
                    (case aF => exact (fun _ _ => trivial))
                    (case aO => exact (by (with_reducible repeat (first | apply Kd.R_alloc | apply Kd.R_drewN | apply Kd.R_drew)); exact HO165.out))
                    (case aS => exact (below_size (by repeat (first | (with_reducible first | exact HB.out | apply below_alloc | apply pw_below_drewN | apply below_drew1) | exact HB.out))))
                    (case aL => have := LMc8.out; omega)
                    intro v168 w15 ho hb hg hat
                    rw [← Ny167.out] at ho
                    have n0_ := Aside0.mk (Kd.S_after (ok := (fun _ => True)) (by (with_reducible repeat (first | apply Kd.S_alloc | apply Kd.S_drewN | apply Kd.S_drew)); exact HO_5.out) hg hat)
                    have n1_ := Aside0.mk (hb)
                    have n2_ := Aside0.mk (ho)
                    clear HO_5
                    clear HB
                    clear HO165
                    have HO_5 := n0_
                    have HB := n1_
                    have HO169 := n2_
                    clear n0_ n1_ n2_
                    clear ho hb hg hat
                    refine hK.out _ _ ⟨((HB.out.cell (World.block_lt_of_cell? w _ hw166_0)).trans hw166_0), ((HB.out.cell (World.block_lt_of_cell? w _ hw170_0)).trans hw170_0)⟩ (fun hHeld => ?_)
                    clear hK K
                    refine norm_ (a' := ?_) ?_ ?_
                    rotate_left
                    · show Act.put _ (some 19) _ = _
                      simp only [Act.put, List.setIfInBounds_toArray, List.set_cons_zero, List.set_cons_succ, i64_w, i32_w]
                      rfl
                    refine one_ (i := 11) (N := some 24) #[true, true, true, true, true, true, true, true, true, true, true, true, false, false, false] rfl rfl (one_of HT_.out (by kernel_rfl)) (by decide) (fun K hK => ?_)
                    refine Kd.R_append_rows_step (Kd.int .u8) (w0 := w) w.heap.size (by rfl) (.tmp 19) (.tmp 23) 25 5 (.int .u8 0) 1 rfl Tryd.underlying25 info5 rfl (by decide) (by omega) v168 y167 (rd_L1 l1 x10_1) _ _ _ (fun _ => True) (fun _ => False) rfl rfl ?aO ?aR (fun _ _ h => h) (fun _ h => h.elim) ?aF ?aB ?aS ?aL ?_
                    (case aR => repeat (first | exact (Kd.C_below HR170_0.out HB.out) | (with_reducible refine Kd.C_alloc ?_ _) | (with_reducible refine Kd.C_drewN ?_ _) | (with_reducible refine Kd.C_drew ?_)))
                    (case aB => exact (by repeat (first | (with_reducible first | exact HB.out | apply below_alloc | apply pw_below_drewN | apply below_drew1) | exact HB.out)))
                    (case aF => exact (fun _ _ => trivial))
                    (case aO => exact (by (with_reducible repeat (first | apply Kd.R_alloc | apply Kd.R_drewN | apply Kd.R_drew)); exact HO169.out))
                    (case aS => exact (below_size (by repeat (first | (with_reducible first | exact HB.out | apply below_alloc | apply pw_below_drewN | apply below_drew1) | exact HB.out))))
                    (case aL => have := LMc10.out; omega)
                    intro v172 w16 ho hb hg hat
                    rw [← Ny171.out] at ho
                    have n0_ := Aside0.mk (Kd.S_after (ok := (fun _ => True)) (by (with_reducible repeat (first | apply Kd.S_alloc | apply Kd.S_drewN | apply Kd.S_drew)); exact HO_5.out) hg hat)
                    have n1_ := Aside0.mk (hb)
                    have n2_ := Aside0.mk (ho)
                    clear HO_5
                    clear HB
                    clear HO169
                    have HO_5 := n0_
                    have HB := n1_
                    have HO173 := n2_
                    clear n0_ n1_ n2_
                    clear ho hb hg hat
                    obtain ⟨Ao18, co18, eo18⟩ := Kd.R_slice HO173.out
                    (first | subst eo18 | (injection eo18 with f1_ f2_ f3_; have f4_ := f1_.symm; have f5_ := f3_.symm; clear f1_ f2_ f3_; subst f4_; subst f5_))
                    refine hK.out _ _ ⟨((HB.out.cell (World.block_lt_of_cell? w _ hw166_0)).trans hw166_0), ((HB.out.cell (World.block_lt_of_cell? w _ hw170_0)).trans hw170_0)⟩ (fun hHeld => ?_)
                    clear hK K
                    refine norm_ (a' := ?_) ?_ ?_
                    rotate_left
                    · show Act.put _ (some 24) _ = _
                      simp only [Act.put, List.setIfInBounds_toArray, List.set_cons_zero, List.set_cons_succ, i64_w, i32_w]
                      rfl
                    refine one_ (i := 12) (N := some 25) #[true, true, true, true, true, true, true, true, true, true, true, true, true, false, false] rfl rfl (one_of HT_.out (by kernel_rfl)) (by decide) (fun K hK => ?_)
                    refine value_ (w1 := ?_) (v := ?_) (by rfl) rfl ?_ ?_
                    rotate_left 2
                    · go_simp
                      constructor
                      · rfl
                      · rfl
                    refine hK.out _ _ ⟨(World.cell?_alloc_lt _ _ _ (World.block_lt_of_cell? _ _ (((HB.out.cell (World.block_lt_of_cell? w _ hw166_0)).trans hw166_0)))).trans (((HB.out.cell (World.block_lt_of_cell? w _ hw166_0)).trans hw166_0)), (World.cell?_alloc_lt _ _ _ (World.block_lt_of_cell? _ _ (((HB.out.cell (World.block_lt_of_cell? w _ hw170_0)).trans hw170_0)))).trans (((HB.out.cell (World.block_lt_of_cell? w _ hw170_0)).trans hw170_0))⟩ (fun hHeld => ?_)
                    clear hK K
                    refine norm_ (a' := ?_) ?_ ?_
                    rotate_left
                    · show Act.put _ (some 25) _ = _
                      simp only [Act.put, List.setIfInBounds_toArray, List.set_cons_zero, List.set_cons_succ, i64_w, i32_w]
                      rfl
                    refine one_ (i := 13) (N := some 26) #[true, true, true, true, true, true, true, true, true, true, true, true, true, true, false] rfl rfl (one_of HT_.out (by kernel_rfl)) (by decide) (fun K hK => ?_)
                    refine Kd.S_append_step (Kd.slice 5 (Kd.int .u8)) (w0 := w) w.heap.size (by rfl) (.tmp 13) (.tmp 25) 31 25 (.slice none 0 0) 24 rfl Tryd.underlying31 info25 rfl (by decide) (by omega) u5 x5_1 y171 [.slice Ao18 y171.length co18] (fun _ => True) (fun k_ => some k_ = (.slice Ao18 y171.length co18 : Value).ownBlock) rfl rfl ?aP (fun k_ hk_ => ((Kd.R_mono (ok' := fun k_ => ((fun _ => True)) k_ ∧ some k_ ≠ (u5 : Value).ownBlock) (Kd.R_apart' (HO173.out) (Kd.S_typed HO_5.out) (by decide)) (fun k_ hk => ⟨trivial, hk.2⟩))).1 k_ hk_.symm) ?aF ?aO ?aB ?aS ?aL ?_
                    (case aP => exact Kd.M_row (Kd.R_mono (Kd.R_tight rfl (Kd.R_mono (ok' := fun k_ => ((fun _ => True)) k_ ∧ some k_ ≠ (u5 : Value).ownBlock) (Kd.R_apart' (HO173.out) (Kd.S_typed HO_5.out) (by decide)) (fun k_ hk => ⟨trivial, hk.2⟩))) (fun _ h_ => h_)))
                    (case aB => exact (by repeat (first | (with_reducible first | exact HB.out | apply below_alloc | apply pw_below_drewN | apply below_drew1) | exact HB.out)))
                    (case aF => exact (fun _ _ => trivial))
                    (case aO => exact (by (with_reducible repeat (first | apply Kd.S_alloc | apply Kd.S_drewN | apply Kd.S_drew)); exact Kd.S_mono HO_5.out (fun k_ hk => ⟨trivial, fun e_ => hk.2 e_⟩)))
                    (case aS => exact (below_size (by repeat (first | (with_reducible first | exact HB.out | apply below_alloc | apply pw_below_drewN | apply below_drew1) | exact HB.out))))
                    (case aL => have := LMc11.out; omega)
                    intro v175 w17 ho hb hg hat
                    rw [← Ny174.out] at ho
                    have n0_ := Aside0.mk (hb)
                    have n1_ := Aside0.mk (ho)
                    clear HB
                    clear HO_5
                    clear HO173
                    have HB := n0_
                    have HO176 := n1_
                    clear n0_ n1_
                    clear ho hb hg hat
                    refine hK.out _ _ ⟨((HB.out.cell (World.block_lt_of_cell? w _ hw166_0)).trans hw166_0), ((HB.out.cell (World.block_lt_of_cell? w _ hw170_0)).trans hw170_0)⟩ (fun hHeld => ?_)
                    clear hK K
                    refine norm_ (a' := ?_) ?_ ?_
                    rotate_left
                    · show Act.put _ (some 26) _ = _
                      simp only [Act.put, List.setIfInBounds_toArray, List.set_cons_zero, List.set_cons_succ, i64_w, i32_w]
                      rfl
                    refine pure_ (i := 14) (N := some 5) (v := ?_) (a' := ?_) #[true, true, true, true, true, true, true, true, true, true, true, true, true, true, true] rfl rfl (any_of HT_.out (by kernel_rfl)) (fun _ _ _ h => h) (Or.inl ⟨by rfl, ?_⟩) ?_ ?_
                    rotate_left
                    · intro w'
                      go_simp
                      with_reducible rfl
                    rotate_left
                    · simp only [Act.put, List.setIfInBounds_toArray, List.set_cons_zero, List.set_cons_succ, i64_w, i32_w]
                      rfl
                    refine done_ (done_of HT_.out (by kernel_rfl)) ?_
                    try go_wp2
                    go_roundg k1
                    case measure => have := HK1.out; omega
                    case rel => exact ⟨(y174), (wrap64 (x10_1 + 1)), (by first | rfl | (simp; done) | (simp [*]; done)), H', ⟨by have := HK1.out; omega⟩, ⟨by (with_reducible repeat (first | apply Kd.S_alloc | apply Kd.S_drewN | apply Kd.S_drew)); exact HO176.out⟩, ⟨by repeat (first | (with_reducible first | exact HB.out | apply below_alloc | apply pw_below_drewN | apply below_drew1) | exact HB.out)⟩⟩
                  · rw [if_neg c11] at H
                    exact absurd H (by simp)
                · rw [if_neg c10] at H
                  exact absurd H (by simp)
              · rw [if_neg c9] at H
                exact absurd H (by simp)
            · rw [if_neg c8] at H
              exact absurd H (by simp)
          · rw [if_neg c7] at H
            exact absurd H (by simp)
        · rw [if_neg c6] at H
          exact absurd H (by simp)
      · rw [if_neg c5] at H
        have c5b0 : decide (x10_1 < (l0.length : Int)) = false := decide_eq_false c5
        clear c5
        obtain rfl := Option.some.inj H
        go_wp2
        go_ret
        exact ⟨_, by first | rfl | (simp [errW_none, errW_some] <;> rfl) | (simp [*, errW_none, errW_some] <;> rfl), by (with_reducible repeat (first | apply Kd.S_alloc | apply Kd.S_drewN | apply Kd.S_drew)); exact HO_5.out, by repeat (first | (with_reducible first | exact HB.out | apply below_alloc | apply pw_below_drewN | apply below_drew1) | exact HB.out)⟩

/-! ### spec_Block: function 43 -/
def spec_Block.l0 : Nat → Int → Int → List (List Int) → List (List Int) → Int → Int → Option ((List (List Int)))
  | 0, _, _, _, _, _, _ => none
  | k + 1, x2, x4, x11, x18, x19, x20 => if x20 < x19 then (if 0 ≤ x20 then (if x20 < (x18.length : Int) then ((some (([] : List Int) : List Int)).bind fun y185 => (if 0 ≤ x2 then (if x2 ≤ x4 then (if x4 ≤ ((rd_L1 x18 x20).length : Int) then (if y185.length + (((rd_L1 x18 x20).take (x4 : Int).toNat).drop (x2 : Int).toNat).length < 140737488355328 then (if x11.length < 5864062014805 then (spec_Block.l0 k x2 x4 (x11 ++ [(y185 ++ (((rd_L1 x18 x20).take (x4 : Int).toNat).drop (x2 : Int).toNat))]) x18 x19 (wrap64 (x20 + 1))) else (none)) else (none)) else (none)) else (none)) else (none))) else (none)) else (none)) else (some x11)
def spec_Block.f (k : Nat) (l0 : List (List Int)) (a1 : Int) (a2 : Int) (a3 : Int) (a4 : Int) : Option ((List (List Int))) := if 0 ≤ a1 then (if a1 ≤ a3 then (if a3 ≤ (l0.length : Int) then ((some ((l0.take (a3 : Int).toNat).drop (a1 : Int).toNat : List (List Int))).bind fun y180 => (spec_Block.l0 k a2 a4 (([] : List (List Int))) y180 (y180.length : Int) 0)) else (none)) else (none)) else (none)
theorem spec_Block.mono_l : ∀ k, (∀ y0 y1 y2 y3 y4 y5, LeO (spec_Block.l0 k y0 y1 y2 y3 y4 y5) (spec_Block.l0 (k + 1) y0 y1 y2 y3 y4 y5))
  | 0 => fun _ _ _ _ _ _ r h => by simp [spec_Block.l0] at h
  | k + 1 => by
    have ih0 := spec_Block.mono_l k
    · intro y0 y1 y2 y3 y4 y5
      unfold spec_Block.l0
      repeat' first
      | (with_reducible exact ih0 _ _ _ _ _ _)
      | (with_reducible exact LeO.refl _)
      | (with_reducible exact LeO.none _)
      | (with_reducible refine LeO.ite ?_ ?_)
      | (with_reducible refine LeO.bind ?_ (fun _ => ?_))
      | exact ih0 _ _ _ _ _ _
      | exact LeO.none _
      | refine LeO.ite ?_ ?_
      | refine LeO.bind ?_ (fun _ => ?_)
theorem spec_Block.mono : ∀ a0 a1 a2 a3 a4 k, LeO (spec_Block.f k a0 a1 a2 a3 a4) (spec_Block.f (k + 1) a0 a1 a2 a3 a4) := by
  intro a0 a1 a2 a3 a4 k
  have ih0 := spec_Block.mono_l k
  unfold spec_Block.f
  repeat' first
      | (with_reducible exact ih0 _ _ _ _ _ _)
      | (with_reducible exact LeO.refl _)
      | (with_reducible exact LeO.none _)
      | (with_reducible refine LeO.ite ?_ ?_)
      | (with_reducible refine LeO.bind ?_ (fun _ => ?_))
      | exact ih0 _ _ _ _ _ _
      | exact LeO.none _
      | refine LeO.ite ?_ ?_
      | refine LeO.bind ?_ (fun _ => ?_)
set_option maxHeartbeats 8000000 in
set_option maxRecDepth 100000 in
theorem spec_Block.calls (k : Nat) (A0 : Option Addr) (c0 : Nat) (l0 : List (List Int)) (a1 : Int) (a2 : Int) (a3 : Int) (a4 : Int) (r : List (List Int)) (w : World) (hr0 : Kd.C (Kd.slice 5 (Kd.int .u8)) w A0 l0.length l0) (hc0 : l0.length ≤ c0) (h : spec_Block.f k l0 a1 a2 a3 a4 = some r) :
    Calls Tryd.prog 43 #[.slice A0 l0.length c0, .int .i64 a1, .int .i64 a2, .int .i64 a3, .int .i64 a4] w fun e w' => ∃ v0_ : Value, e = .returned (v0_) ∧ Kd.S (Kd.slice 5 (Kd.int .u8)) 25 w' w.heap.size (fun _ => True) v0_ r ∧ Below w.heap.size w w' := by
  have HR0 := Aside0.mk hr0
  have HC0 := Aside0.mk hc0
  clear hr0 hc0
  have HB := Aside0.mk (Below.refl w.heap.size w)
  have H : (if 0 ≤ a1 then (if a1 ≤ a3 then (if a3 ≤ (l0.length : Int) then ((some ((l0.take (a3 : Int).toNat).drop (a1 : Int).toNat : List (List Int))).bind fun y180 => (spec_Block.l0 k a2 a4 (([] : List (List Int))) y180 (y180.length : Int) 0)) else (none)) else (none)) else (none)) = some r := h
  clear h
  obtain ⟨y177, hy177⟩ : ∃ y_ : List (List Int), y_ = (([] : List (List Int))) := ⟨_, rfl⟩
  replace H : (if 0 ≤ a1 then (if a1 ≤ a3 then (if a3 ≤ (l0.length : Int) then ((some ((l0.take (a3 : Int).toNat).drop (a1 : Int).toNat : List (List Int))).bind fun y180 => (spec_Block.l0 k a2 a4 y177 y180 (y180.length : Int) 0)) else (none)) else (none)) else (none)) = some r := by first | (rw [hy177]; with_reducible exact H) | (have H2_ := (Option.bind_some _ _).symm.trans H; rw [hy177]; with_reducible exact H2_) | (have H2_ := (Option.bind_some _ _).symm.trans H; with_reducible exact H2_) | with_reducible exact H | (rw [hy177]; exact H) | exact H
  have Ny177 := Aside0.mk hy177
  clear hy177
  by_cases c6 : 0 ≤ a1
  · rw [if_pos c6] at H
    have c6b0 := eq_true c6
    have c6b1 : decide (0 ≤ a1) = true := decide_eq_true c6
    clear c6
    by_cases c7 : a1 ≤ a3
    · rw [if_pos c7] at H
      have c7b0 := eq_true c7
      have c7b1 : decide (a1 ≤ a3) = true := decide_eq_true c7
      clear c7
      by_cases c8 : a3 ≤ (l0.length : Int)
      · rw [if_pos c8] at H
        have c8b0 := eq_true c8
        have c8b1 : decide (a3 ≤ (l0.length : Int)) = true := decide_eq_true c8
        clear c8
        obtain ⟨y180, hy180⟩ : ∃ y_ : List (List Int), y_ = ((l0.take (a3 : Int).toNat).drop (a1 : Int).toNat) := ⟨_, rfl⟩
        replace H : (spec_Block.l0 k a2 a4 y177 y180 (y180.length : Int) 0) = some r := by first | (rw [hy180]; with_reducible exact H) | (have H2_ := (Option.bind_some _ _).symm.trans H; rw [hy180]; with_reducible exact H2_) | (have H2_ := (Option.bind_some _ _).symm.trans H; with_reducible exact H2_) | with_reducible exact H | (rw [hy180]; exact H) | exact H
        have Ny180 := Aside0.mk hy180
        clear hy180
        have H' := Aside0.mk H
        clear H
        go_enter Tryd.func43, Tryd.ntmps43
        go_wp2_with (first | ((with_reducible refine gate_dst (N := 14) rfl ?_); refine Kd.S_lit (Kd.slice 5 (Kd.int .u8)) _ 25 ?hg (N := 14) ?hd (xs := ([] : List (List Int))) (inner := []) (ok := fun _ => True) (okp := fun _ => True) ?hr ?hp (fun _ hk => hk) trivial (Below.refl _ _) (Nat.le_refl _) (by simp) ?_; (case hd => rfl); (case hg => rfl); (case hr => first | (go_simp; done) | (go_simp; rfl)); (case hp => exact (Reps.none _ _)); intro v178 w9 ho10 hb hg_ hnew_; clear hg_ hnew_; (first | rw [← Ny177.out] at ho10 | (simp only [Int.reduceToNat] at ho10; rw [← Ny177.out] at ho10)); have n0_ := Aside0.mk (Kd.S_lower ho10 (below_size (by repeat (first | (with_reducible first | exact HB.out | apply below_alloc | apply pw_below_drewN | apply below_drew1) | exact HB.out)))); have n1_ := Aside0.mk (below_step (by repeat (first | (with_reducible first | exact HB.out | apply below_alloc | apply pw_below_drewN | apply below_drew1) | exact HB.out)) hb); clear HB; have HO179 := n0_; have HB := n1_; clear n0_ n1_; clear hb ho10; have q11 : (a3 : Int) ≤ ((l0.length : Int) : Int) := of_decide_eq_true (by first | (with_reducible assumption) | assumption); obtain ⟨i011, hi011, _, hsz11, _⟩ := info_parts info25; have hroom11 : l0.length ≤ c0 := HC0.out; have hC11 : Kd.C (Kd.slice 5 (Kd.int .u8)) _ A0 l0.length l0 := HR0.out; have ql11 : (a1 : Int) ≤ (a3 : Int) := of_decide_eq_true (by first | (with_reducible assumption) | assumption); have q011 : (0 : Int) ≤ (a1 : Int) := of_decide_eq_true (by first | (with_reducible assumption) | assumption); have hcut11 := cut_mid (P := Tryd.prog) 31 25 .i64 .i64 Tryd.underlying31 hi011 1 hsz11 A0 l0.length c0 a1 a3 q011 ql11 q11 hroom11; have hr11 := Kd.C_mid (lo := (a1 : Int).toNat) (hi := (a3 : Int).toNat) (c := c0) hC11 (by omega) (by omega) hroom11; obtain ⟨A11, hA11⟩ : ∃ A1, A1 = (if c0 = (a1 : Int).toNat then A0 else (A0 : Option Addr).map (·.add ((a1 : Int).toNat * 1))) := ⟨_, rfl⟩; obtain ⟨c11, hc11⟩ : ∃ c1, c1 = c0 - (a1 : Int).toNat := ⟨_, rfl⟩; have hy11 : y180.length = (a3 : Int).toNat - (a1 : Int).toNat := (by rw [Ny180.out, List.length_drop, List.length_take] <;> omega); rw [show ((l0).take (a3 : Int).toNat).drop (a1 : Int).toNat = y180 from Ny180.out.symm] at hr11; replace hr11 : Kd.C (Kd.slice 5 (Kd.int .u8)) _ A11 y180.length y180 := (by rw [hA11]; exact hr11); rw [← hy11, ← hA11, ← hc11] at hcut11; have HR183 := Aside0.mk hr11; have HC183 := Aside0.mk (show y180.length ≤ c11 from by rw [hy11, hc11]; exact Nat.sub_le_sub_right (Nat.le_trans (by omega) hroom11) _); clear hr11 hC11 hroom11 hi011 hsz11 hc11; have KY11 := Aside0.mk hy11; have KA11 := Aside0.mk hA11; clear hy11 hA11; replace q11 := eq_true q11))
        try simp only [Act.put, List.setIfInBounds_toArray, List.set_cons_zero, List.set_cons_succ]
        go_loopg [11, 20] k (fun kq v11 v20 w' => ∃ (x11_1 : List (List Int)) (x20_1 : Int), v20 = .int .i64 x20_1 ∧ Aside0 (spec_Block.l0 kq a2 a4 x11_1 y180 (y180.length : Int) x20_1 = some r) ∧ Aside0 (kq ≤ k) ∧ Aside0 (Kd.S (Kd.slice 5 (Kd.int .u8)) 25 w' w.heap.size (fun _ => True) v11 x11_1) ∧ Aside0 (Below w.heap.size w w'))
        case atStart => exact ⟨(y177), (0), (by first | rfl | (simp; done) | (simp [*]; done)), H', ⟨Nat.le_refl _⟩, ⟨by (with_reducible repeat (first | apply Kd.S_alloc | apply Kd.S_drewN | apply Kd.S_drew)); exact HO179.out⟩, ⟨by repeat (first | (with_reducible first | exact HB.out | apply below_alloc | apply pw_below_drewN | apply below_drew1) | exact HB.out)⟩⟩
        case round =>
          clear H'
          try clear c1
          try clear q1
          try clear p2
          try clear c4
          try clear c6
          try clear c6b0
          try clear c6b1
          try clear c7
          try clear c7b0
          try clear c7b1
          try clear c8
          try clear c8b0
          try clear c8b1
          try clear c11
          try clear q11
          try clear q011
          try clear q11
          obtain ⟨x11_1, x20_1, rfl, HA, HK1, HO_11, HB⟩ := hrel
          cases gk with
          | zero => exact absurd HA.out (by simp [spec_Block.l0])
          | succ k1 =>
            have H := HA.out
            clear HA
            simp only [spec_Block.l0] at H
            by_cases c12 : x20_1 < (y180.length : Int)
            · rw [if_pos c12] at H
              have c12b0 : decide (x20_1 < (y180.length : Int)) = true := decide_eq_true c12
              clear c12
              by_cases c13 : 0 ≤ x20_1
              · rw [if_pos c13] at H
                have c13b0 : decide (0 ≤ x20_1) = true := decide_eq_true c13
                clear c13
                by_cases c14 : x20_1 < (y180.length : Int)
                · rw [if_pos c14] at H
                  have c14b0 : decide (x20_1 < (y180.length : Int)) = true := decide_eq_true c14
                  clear c14
                  obtain ⟨y185, hy185⟩ : ∃ y_ : List Int, y_ = (([] : List Int)) := ⟨_, rfl⟩
                  replace H : (if 0 ≤ a2 then (if a2 ≤ a4 then (if a4 ≤ ((rd_L1 y180 x20_1).length : Int) then (if y185.length + (((rd_L1 y180 x20_1).take (a4 : Int).toNat).drop (a2 : Int).toNat).length < 140737488355328 then (if x11_1.length < 5864062014805 then (spec_Block.l0 k1 a2 a4 (x11_1 ++ [(y185 ++ (((rd_L1 y180 x20_1).take (a4 : Int).toNat).drop (a2 : Int).toNat))]) y180 (y180.length : Int) (wrap64 (x20_1 + 1))) else (none)) else (none)) else (none)) else (none)) else (none)) = some r := by first | (rw [hy185]; with_reducible exact H) | (have H2_ := (Option.bind_some _ _).symm.trans H; rw [hy185]; with_reducible exact H2_) | (have H2_ := (Option.bind_some _ _).symm.trans H; with_reducible exact H2_) | with_reducible exact H | (rw [hy185]; exact H) | exact H
                  have Ny185 := Aside0.mk hy185
                  clear hy185
                  by_cases c15 : 0 ≤ a2
                  · rw [if_pos c15] at H
                    have c15b0 := eq_true c15
                    have c15b1 : decide (0 ≤ a2) = true := decide_eq_true c15
                    clear c15
                    by_cases c16 : a2 ≤ a4
                    · rw [if_pos c16] at H
                      have c16b0 := eq_true c16
                      have c16b1 : decide (a2 ≤ a4) = true := decide_eq_true c16
                      clear c16
                      by_cases c17 : a4 ≤ ((rd_L1 y180 x20_1).length : Int)
                      · rw [if_pos c17] at H
                        have c17b0 := eq_true c17
                        have c17b1 : decide (a4 ≤ ((rd_L1 y180 x20_1).length : Int)) = true := decide_eq_true c17
                        clear c17
                        by_cases c18 : y185.length + (((rd_L1 y180 x20_1).take (a4 : Int).toNat).drop (a2 : Int).toNat).length < 140737488355328
                        · rw [if_pos c18] at H
                          have LMc18 := Aside0.mk c18
                          clear c18
                          obtain ⟨y189, hy189⟩ : ∃ y_ : List Int, y_ = (y185 ++ (((rd_L1 y180 x20_1).take (a4 : Int).toNat).drop (a2 : Int).toNat)) := ⟨_, rfl⟩
                          replace H : (if x11_1.length < 5864062014805 then (spec_Block.l0 k1 a2 a4 (x11_1 ++ [y189]) y180 (y180.length : Int) (wrap64 (x20_1 + 1))) else (none)) = some r := by first | (rw [hy189]; with_reducible exact H) | (have H2_ := (Option.bind_some _ _).symm.trans H; rw [hy189]; with_reducible exact H2_) | (have H2_ := (Option.bind_some _ _).symm.trans H; with_reducible exact H2_) | with_reducible exact H | (rw [hy189]; exact H) | exact H
                          have Ny189 := Aside0.mk hy189
                          clear hy189
                          by_cases c19 : x11_1.length < 5864062014805
                          · rw [if_pos c19] at H
                            have LMc19 := Aside0.mk c19
                            clear c19
                            obtain ⟨y192, hy192⟩ : ∃ y_ : List (List Int), y_ = (x11_1 ++ [y189]) := ⟨_, rfl⟩
                            replace H : (spec_Block.l0 k1 a2 a4 y192 y180 (y180.length : Int) (wrap64 (x20_1 + 1))) = some r := by first | (rw [hy192]; with_reducible exact H) | (have H2_ := (Option.bind_some _ _).symm.trans H; rw [hy192]; with_reducible exact H2_) | (have H2_ := (Option.bind_some _ _).symm.trans H; with_reducible exact H2_) | with_reducible exact H | (rw [hy192]; exact H) | exact H
                            have Ny192 := Aside0.mk hy192
                            clear hy192
                            have H' := Aside0.mk H
                            clear H
                            have p184 : 0 ≤ (x20_1 : Int) := of_decide_eq_true (by first | (with_reducible assumption) | assumption)
                            have q184 : x20_1 < (y180.length : Int) := of_decide_eq_true (by first | (with_reducible assumption) | assumption)
                            obtain ⟨ad184, A184_0, c184_0, e184, hx184_0, hl184_0, hi184_0⟩ := at_L1 HR183.out x20_1 p184 q184
                            cases e184
                            replace hx184_0 := (HB.out.cell (World.block_lt_of_cell? w _ hx184_0)).trans hx184_0
                            have HR184_0 := Aside0.mk hi184_0
                            have HC184_0 := Aside0.mk hl184_0
                            clear hi184_0 hl184_0
                            replace p184 := eq_true p184
                            replace q184 := eq_true q184
                            go_wp2_with (first | ((with_reducible refine gate_dst (N := 25) rfl ?_); refine Kd.R_lit (Kd.int .u8) _ 5 ?hg (N := 25) ?hd (xs := ([] : List Int)) (inner := []) (ok := fun _ => True) (okp := fun _ => True) ?hr ?hp (fun _ hk => hk) trivial (Below.refl _ _) (Nat.le_refl _) (by simp) ?_; (case hd => rfl); (case hg => rfl); (case hr => first | (go_simp; done) | (go_simp; rfl)); (case hp => exact (Reps.none _ _)); intro v186 w20 ho21 hb hg_ hnew_; clear hg_ hnew_; (first | rw [← Ny185.out] at ho21 | (simp only [Int.reduceToNat] at ho21; rw [← Ny185.out] at ho21)); have n0_ := Aside0.mk (Kd.S_elder' (by (with_reducible repeat (first | apply Kd.S_alloc | apply Kd.S_drewN | apply Kd.S_drew)); exact HO_11.out) (Kd.R_base ho21) hb); have n1_ := Aside0.mk (Kd.R_lower ho21 (below_size (by repeat (first | (with_reducible first | exact HB.out | apply below_alloc | apply pw_below_drewN | apply below_drew1) | exact HB.out)))); have n2_ := Aside0.mk (below_step (by repeat (first | (with_reducible first | exact HB.out | apply below_alloc | apply pw_below_drewN | apply below_drew1) | exact HB.out)) hb); clear HO_11; clear HB; have HO_11 := n0_; have HO187 := n1_; have HB := n2_; clear n0_ n1_ n2_; clear hb ho21; obtain ⟨i022, hi022, _, hsz22, _⟩ := info_parts info5; obtain ⟨A22, hcut22, hA22, hC22⟩ := print_mid_of (P := Tryd.prog) (Value.int .u8) 0 25 5 .i64 .i64 Tryd.underlying25 hi022 hsz22 A184_0 c184_0 (rd_L1 y180 x20_1) a2 a4 (of_decide_eq_true (by first | (with_reducible assumption) | assumption)) (by first | omega | exact of_decide_eq_true (by first | (with_reducible assumption) | assumption)) (of_decide_eq_true (by first | (with_reducible assumption) | assumption)) HC184_0.out; have HR188 := Aside0.mk (Kd.C_of_reads (h1 := fun _ => rfl) (hA22 _ (Kd.reads_of_C HR184_0.out))); have HC188 := Aside0.mk hC22; clear hA22 hC22 hi022 hsz22) | ((with_reducible refine gate_builtin (b := .append) (xs := #[.tmp 25, .tmp 29]) rfl ?_); at_builtin; refine Kd.R_append_rows (Kd.int .u8) (w0 := w) w.heap.size rfl (.tmp 25) (.tmp 29) 25 5 (.int .u8 0) 1 rfl Tryd.underlying25 info5 rfl (by decide) (by omega) v186 y185 (((rd_L1 y180 x20_1).take (a4 : Int).toNat).drop (a2 : Int).toNat) _ _ _ (fun _ => True) (fun _ => False) rfl rfl ?aO ?aR (fun _ _ h => h) (fun _ h => h.elim) ?aF ?aB ?aS ?aL ?_; (case aR => first | (rw [← show (((rd_L1 y180 x20_1).take (a4 : Int).toNat).drop (a2 : Int).toNat).length = (a4.toNat - a2.toNat) from (by rw [List.length_drop, List.length_take]; have h_ : (a4 : Int) ≤ ((rd_L1 y180 x20_1).length : Int) := of_decide_eq_true (by first | (with_reducible assumption) | assumption); omega)]; repeat (first | exact (Kd.C_below HR188.out HB.out) | (with_reducible refine Kd.C_alloc ?_ _) | (with_reducible refine Kd.C_drewN ?_ _) | (with_reducible refine Kd.C_drew ?_))) | (repeat (first | exact (Kd.C_below HR188.out HB.out) | (with_reducible refine Kd.C_alloc ?_ _) | (with_reducible refine Kd.C_drewN ?_ _) | (with_reducible refine Kd.C_drew ?_)))); (case aB => exact (by repeat (first | (with_reducible first | exact HB.out | apply below_alloc | apply pw_below_drewN | apply below_drew1) | exact HB.out))); (case aF => exact (fun _ _ => trivial)); (case aO => exact (by (with_reducible repeat (first | apply Kd.R_alloc | apply Kd.R_drewN | apply Kd.R_drew)); exact HO187.out)); (case aS => exact (below_size (by repeat (first | (with_reducible first | exact HB.out | apply below_alloc | apply pw_below_drewN | apply below_drew1) | exact HB.out)))); (case aL => have := LMc18.out; have hlx_ := (show (((rd_L1 y180 x20_1).take (a4 : Int).toNat).drop (a2 : Int).toNat).length = (a4.toNat - a2.toNat) from (by rw [List.length_drop, List.length_take]; have h_ : (a4 : Int) ≤ ((rd_L1 y180 x20_1).length : Int) := of_decide_eq_true (by first | (with_reducible assumption) | assumption); omega)); omega); intro v190 w23 ho hb hg hat; rw [← Ny189.out] at ho; have n0_ := Aside0.mk (Kd.S_after (ok := (fun _ => True)) (by (with_reducible repeat (first | apply Kd.S_alloc | apply Kd.S_drewN | apply Kd.S_drew)); exact HO_11.out) hg hat); have n1_ := Aside0.mk (hb); have n2_ := Aside0.mk (ho); clear HO_11; clear HB; clear HO187; have HO_11 := n0_; have HB := n1_; have HO191 := n2_; clear n0_ n1_ n2_; clear ho hb hg hat; obtain ⟨Ao25, co25, eo25⟩ := Kd.R_slice HO191.out; subst eo25) | ((with_reducible refine gate_builtin (b := .append) (xs := #[.tmp 24, .tmp 31]) rfl ?_); at_builtin; refine Kd.S_append (Kd.slice 5 (Kd.int .u8)) (w0 := w) w.heap.size rfl (.tmp 24) (.tmp 31) 31 25 (.slice none 0 0) 24 rfl Tryd.underlying31 info25 rfl (by decide) (by omega) u11 x11_1 y189 [.slice Ao25 y189.length co25] (fun _ => True) (fun k_ => some k_ = (.slice Ao25 y189.length co25 : Value).ownBlock) rfl rfl ?aP (fun k_ hk_ => ((Kd.R_mono (ok' := fun k_ => ((fun _ => True)) k_ ∧ some k_ ≠ (u11 : Value).ownBlock) (Kd.R_apart' (HO191.out) (Kd.S_typed HO_11.out) (by decide)) (fun k_ hk => ⟨trivial, hk.2⟩))).1 k_ hk_.symm) ?aF ?aO ?aB ?aS ?aL ?_; (case aP => exact Kd.M_row (Kd.R_mono (Kd.R_tight rfl (Kd.R_mono (ok' := fun k_ => ((fun _ => True)) k_ ∧ some k_ ≠ (u11 : Value).ownBlock) (Kd.R_apart' (HO191.out) (Kd.S_typed HO_11.out) (by decide)) (fun k_ hk => ⟨trivial, hk.2⟩))) (fun _ h_ => h_))); (case aB => exact (by repeat (first | (with_reducible first | exact HB.out | apply below_alloc | apply pw_below_drewN | apply below_drew1) | exact HB.out))); (case aF => exact (fun _ _ => trivial)); (case aO => exact (by (with_reducible repeat (first | apply Kd.S_alloc | apply Kd.S_drewN | apply Kd.S_drew)); exact Kd.S_mono HO_11.out (fun k_ hk => ⟨trivial, fun e_ => hk.2 e_⟩))); (case aS => exact (below_size (by repeat (first | (with_reducible first | exact HB.out | apply below_alloc | apply pw_below_drewN | apply below_drew1) | exact HB.out)))); (case aL => have := LMc19.out; omega); intro v193 w24 ho hb hg hat; rw [← Ny192.out] at ho; have n0_ := Aside0.mk (hb); have n1_ := Aside0.mk (ho); clear HB; clear HO_11; clear HO191; have HB := n0_; have HO194 := n1_; clear n0_ n1_; clear ho hb hg hat))
                            go_roundg k1
                            case measure => have := HK1.out; omega
                            case rel => exact ⟨(y192), (wrap64 (x20_1 + 1)), (by first | rfl | (simp; done) | (simp [*]; done)), H', ⟨by have := HK1.out; omega⟩, ⟨by (with_reducible repeat (first | apply Kd.S_alloc | apply Kd.S_drewN | apply Kd.S_drew)); exact HO194.out⟩, ⟨by repeat (first | (with_reducible first | exact HB.out | apply below_alloc | apply pw_below_drewN | apply below_drew1) | exact HB.out)⟩⟩
                          · rw [if_neg c19] at H
                            exact absurd H (by simp)
                        · rw [if_neg c18] at H
                          exact absurd H (by simp)
                      · rw [if_neg c17] at H
                        exact absurd H (by simp)
                    · rw [if_neg c16] at H
                      exact absurd H (by simp)
                  · rw [if_neg c15] at H
                    exact absurd H (by simp)
                · rw [if_neg c14] at H
                  exact absurd H (by simp)
              · rw [if_neg c13] at H
                exact absurd H (by simp)
            · rw [if_neg c12] at H
              have c12b0 : decide (x20_1 < (y180.length : Int)) = false := decide_eq_false c12
              clear c12
              obtain rfl := Option.some.inj H
              go_wp2
              go_ret
              exact ⟨_, by first | rfl | (simp [errW_none, errW_some] <;> rfl) | (simp [*, errW_none, errW_some] <;> rfl), by (with_reducible repeat (first | apply Kd.S_alloc | apply Kd.S_drewN | apply Kd.S_drew)); exact HO_11.out, by repeat (first | (with_reducible first | exact HB.out | apply below_alloc | apply pw_below_drewN | apply below_drew1) | exact HB.out)⟩
      · rw [if_neg c8] at H
        exact absurd H (by simp)
    · rw [if_neg c7] at H
      exact absurd H (by simp)
  · rw [if_neg c6] at H
    exact absurd H (by simp)

end Go.Proofs.YtladpdeneiaaeaaDoor.PInv
