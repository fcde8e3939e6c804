-- Written by a program of this session (wip/tools)
import Derived.Test.YtladpdeneiaaeaaDoorPShpx0
namespace Go.Proofs.YtladpdeneiaaeaaDoor.PShp
open Go.RowKit Go.Proofs.YtladpdeneiaaeaaDoorW.PrintWords Go.Proofs.YtladpdeneiaaeaaDoorW.PrintLast Go.Proofs.YtladpdeneiaaeaaDoorW.PrintMore
attribute [local go_sem] max2_int min2_int max_two min_two max_three min_three max_four min_four   -- for this text's walks alone
set_option linter.unusedVariables false
set_option linter.unusedSimpArgs false

/-! ### impl_rows: function 34 -/
def impl_rows.l0 : Nat → List (List Int) → List (List Int) → Int → Int → Option ((List (List Int)))
  | 0, _, _, _, _ => none
  | k + 1, x3, x6, x7, x8 => if x8 < x7 then (if 0 ≤ x8 then (if x8 < (x6.length : Int) then (if ([] : List Int).length + (rd_L1 x6 x8).length < 140737488355328 then (if x3.length < 5864062014805 then (impl_rows.l0 k (x3 ++ [(([] : List Int) ++ (rd_L1 x6 x8))]) x6 x7 (wrap64 (x8 + 1))) else (none)) else (none)) else (none)) else (none)) else (some x3)
def impl_rows.f (k : Nat) (l0 : List (List Int)) : Option ((List (List Int))) := impl_rows.l0 k ([] : List (List Int)) l0 (l0.length : Int) 0
theorem impl_rows.mono_l : ∀ k, (∀ y0 y1 y2 y3, LeO (impl_rows.l0 k y0 y1 y2 y3) (impl_rows.l0 (k + 1) y0 y1 y2 y3))
  | 0 => fun _ _ _ _ r h => by simp [impl_rows.l0] at h
  | k + 1 => by
    have ih0 := impl_rows.mono_l k
    · intro y0 y1 y2 y3
      unfold impl_rows.l0
      repeat' first
      | (with_reducible exact ih0 _ _ _ _)
      | (with_reducible exact LeO.refl _)
      | (with_reducible exact LeO.none _)
      | (with_reducible refine LeO.ite ?_ ?_)
      | (with_reducible refine LeO.bind ?_ (fun _ => ?_))
      | exact ih0 _ _ _ _
      | exact LeO.none _
      | refine LeO.ite ?_ ?_
      | refine LeO.bind ?_ (fun _ => ?_)
theorem impl_rows.mono : ∀ a0 k, LeO (impl_rows.f k a0) (impl_rows.f (k + 1) a0) := by
  intro a0 k
  have ih0 := impl_rows.mono_l k
  unfold impl_rows.f
  repeat' first
      | (with_reducible exact ih0 _ _ _ _)
      | (with_reducible exact LeO.refl _)
      | (with_reducible exact LeO.none _)
      | (with_reducible refine LeO.ite ?_ ?_)
      | (with_reducible refine LeO.bind ?_ (fun _ => ?_))
      | exact ih0 _ _ _ _
      | exact LeO.none _
      | refine LeO.ite ?_ ?_
      | refine LeO.bind ?_ (fun _ => ?_)
set_option maxHeartbeats 8000000 in
set_option maxRecDepth 100000 in
theorem impl_rows.calls (k : Nat) (A0 : Option Addr) (c0 : Nat) (l0 : List (List Int)) (r : List (List Int)) (w : World) (hr0 : Kd.C (Kd.slice 5 (Kd.int .u8)) w A0 l0.length l0) (hc0 : l0.length ≤ c0) (h : impl_rows.f k l0 = some r) :
    Calls Tryd.prog 34 #[.slice A0 l0.length c0] w fun e w' => ∃ v0_ : Value, e = .returned (v0_) ∧ Kd.S (Kd.slice 5 (Kd.int .u8)) 25 w' w.heap.size (fun _ => True) v0_ r ∧ Below w.heap.size w w' := by
  have HR0 := Aside0.mk hr0
  have HC0 := Aside0.mk hc0
  clear hr0 hc0
  have HB := Aside0.mk (Below.refl w.heap.size w)
  have H : (impl_rows.l0 k ([] : List (List Int)) l0 (l0.length : Int) 0) = some r := h
  clear h
  have H' := Aside0.mk H
  clear H
  go_enter Tryd.func34, Tryd.ntmps34
  go_wp2
  try simp only [Act.put, List.setIfInBounds_toArray, List.set_cons_zero, List.set_cons_succ]
  go_loopg [3, 8] k (fun kq v3 v8 w' => ∃ (x3_1 : List (List Int)) (x8_1 : Int), v8 = .int .i64 x8_1 ∧ Aside0 (impl_rows.l0 kq x3_1 l0 (l0.length : Int) x8_1 = some r) ∧ Aside0 (kq ≤ k) ∧ Aside0 (Kd.S (Kd.slice 5 (Kd.int .u8)) 25 w' w.heap.size (fun _ => True) v3 x3_1) ∧ Aside0 (Below w.heap.size w w'))
  case atStart => exact ⟨(([] : List (List Int))), (0), (by first | rfl | (simp; done) | (simp [*]; done)), H', ⟨Nat.le_refl _⟩, ⟨by first | exact Kd.S_nil _ _ _ _ _ | exact Kd.N_nil _ _ _ _ _ | exact Kd.V_nil _ _ _ _ _ | exact Kd.Q_nil _ _ _ _ _ | exact Kd.R_nil _ _ _ _ _⟩, ⟨by repeat (first | (with_reducible first | exact HB.out | apply below_alloc | apply pw_below_drewN | apply below_drew1) | exact HB.out)⟩⟩
  case round =>
    clear H'
    obtain ⟨x3_1, x8_1, rfl, HA, HK1, HO_3, HB⟩ := hrel
    cases gk with
    | zero => exact absurd HA.out (by simp [impl_rows.l0])
    | succ k1 =>
      have H := HA.out
      clear HA
      simp only [impl_rows.l0] at H
      by_cases c2 : x8_1 < (l0.length : Int)
      · rw [if_pos c2] at H
        have c2b0 : decide (x8_1 < (l0.length : Int)) = true := decide_eq_true c2
        clear c2
        by_cases c3 : 0 ≤ x8_1
        · rw [if_pos c3] at H
          have c3b0 : decide (0 ≤ x8_1) = true := decide_eq_true c3
          clear c3
          by_cases c4 : x8_1 < (l0.length : Int)
          · rw [if_pos c4] at H
            have c4b0 : decide (x8_1 < (l0.length : Int)) = true := decide_eq_true c4
            clear c4
            by_cases c5 : ([] : List Int).length + (rd_L1 l0 x8_1).length < 140737488355328
            · rw [if_pos c5] at H
              have LMc5 := Aside0.mk c5
              clear c5
              obtain ⟨y102, hy102⟩ : ∃ y_ : List Int, y_ = (([] : List Int) ++ (rd_L1 l0 x8_1)) := ⟨_, rfl⟩
              replace H : (if x3_1.length < 5864062014805 then (impl_rows.l0 k1 (x3_1 ++ [y102]) l0 (l0.length : Int) (wrap64 (x8_1 + 1))) else (none)) = some r := by first | (rw [hy102]; with_reducible exact H) | (have H2_ := (Option.bind_some _ _).symm.trans H; rw [hy102]; with_reducible exact H2_) | (have H2_ := (Option.bind_some _ _).symm.trans H; with_reducible exact H2_) | with_reducible exact H | (rw [hy102]; exact H) | exact H
              have Ny102 := Aside0.mk hy102
              clear hy102
              by_cases c6 : x3_1.length < 5864062014805
              · rw [if_pos c6] at H
                have LMc6 := Aside0.mk c6
                clear c6
                obtain ⟨y105, hy105⟩ : ∃ y_ : List (List Int), y_ = (x3_1 ++ [y102]) := ⟨_, rfl⟩
                replace H : (impl_rows.l0 k1 y105 l0 (l0.length : Int) (wrap64 (x8_1 + 1))) = some r := by first | (rw [hy105]; with_reducible exact H) | (have H2_ := (Option.bind_some _ _).symm.trans H; rw [hy105]; with_reducible exact H2_) | (have H2_ := (Option.bind_some _ _).symm.trans H; with_reducible exact H2_) | with_reducible exact H | (rw [hy105]; exact H) | exact H
                have Ny105 := Aside0.mk hy105
                clear hy105
                have H' := Aside0.mk H
                clear H
                have p101 : 0 ≤ (x8_1 : Int) := of_decide_eq_true (by first | (with_reducible assumption) | assumption)
                have q101 : x8_1 < (l0.length : Int) := of_decide_eq_true (by first | (with_reducible assumption) | assumption)
                obtain ⟨ad101, A101_0, c101_0, e101, hx101_0, hl101_0, hi101_0⟩ := at_L1 HR0.out x8_1 p101 q101
                cases e101
                replace hx101_0 := (HB.out.cell (World.block_lt_of_cell? w _ hx101_0)).trans hx101_0
                have HR101_0 := Aside0.mk hi101_0
                have HC101_0 := Aside0.mk hl101_0
                clear hi101_0 hl101_0
                replace p101 := eq_true p101
                replace q101 := eq_true q101
                go_wp2_with (first | ((with_reducible refine gate_builtin (b := .append) (xs := #[.const (.slice none 0 0), .tmp 13]) rfl ?_); at_builtin; refine Kd.R_append_rows (Kd.int .u8) (w0 := w) w.heap.size rfl (.const (.slice none 0 0)) (.tmp 13) 25 5 (.int .u8 0) 1 rfl Tryd.underlying25 info5 rfl (by decide) (by omega) (.slice none 0 0) ([] : List Int) (rd_L1 l0 x8_1) _ _ _ (fun _ => True) (fun _ => False) rfl rfl ?aO ?aR (fun _ _ h => h) (fun _ h => h.elim) ?aF ?aB ?aS ?aL ?_; (case aR => repeat (first | exact (Kd.C_below HR101_0.out HB.out) | (with_reducible refine Kd.C_alloc ?_ _) | (with_reducible refine Kd.C_drewN ?_ _) | (with_reducible refine Kd.C_drew ?_))); (case aB => exact (by repeat (first | (with_reducible first | exact HB.out | apply below_alloc | apply pw_below_drewN | apply below_drew1) | exact HB.out))); (case aF => exact (fun _ _ => trivial)); (case aO => exact ((Kd.R_nil _ _ _ _ (fun _ => True)))); (case aS => exact (below_size (by repeat (first | (with_reducible first | exact HB.out | apply below_alloc | apply pw_below_drewN | apply below_drew1) | exact HB.out)))); (case aL => have := LMc5.out; omega); intro v103 w7 ho hb hg hat; rw [← Ny102.out] at ho; have n0_ := Aside0.mk (Kd.S_after (Kd.S_apart_nil (by (with_reducible repeat (first | apply Kd.S_alloc | apply Kd.S_drewN | apply Kd.S_drew)); exact HO_3.out)) hg hat); have n1_ := Aside0.mk (hb); have n2_ := Aside0.mk (ho); clear HO_3; clear HB; have HO_3 := n0_; have HB := n1_; have HO104 := n2_; clear n0_ n1_ n2_; clear ho hb hg hat; obtain ⟨Ao9, co9, eo9⟩ := Kd.R_slice HO104.out; subst eo9) | ((with_reducible refine gate_builtin (b := .append) (xs := #[.tmp 12, .tmp 15]) rfl ?_); at_builtin; refine Kd.S_append (Kd.slice 5 (Kd.int .u8)) (w0 := w) w.heap.size rfl (.tmp 12) (.tmp 15) 31 25 (.slice none 0 0) 24 rfl Tryd.underlying31 info25 rfl (by decide) (by omega) u3 x3_1 y102 [.slice Ao9 y102.length co9] (fun _ => True) (fun k_ => some k_ = (.slice Ao9 y102.length co9 : Value).ownBlock) rfl rfl ?aP (fun k_ hk_ => ((Kd.R_mono (ok' := fun k_ => ((fun _ => True)) k_ ∧ some k_ ≠ (u3 : Value).ownBlock) (Kd.R_apart' (HO104.out) (Kd.S_typed HO_3.out) (by decide)) (fun k_ hk => ⟨trivial, hk.2⟩))).1 k_ hk_.symm) ?aF ?aO ?aB ?aS ?aL ?_; (case aP => exact Kd.M_row (Kd.R_mono (Kd.R_tight rfl (Kd.R_mono (ok' := fun k_ => ((fun _ => True)) k_ ∧ some k_ ≠ (u3 : Value).ownBlock) (Kd.R_apart' (HO104.out) (Kd.S_typed HO_3.out) (by decide)) (fun k_ hk => ⟨trivial, hk.2⟩))) (fun _ h_ => h_))); (case aB => exact (by repeat (first | (with_reducible first | exact HB.out | apply below_alloc | apply pw_below_drewN | apply below_drew1) | exact HB.out))); (case aF => exact (fun _ _ => trivial)); (case aO => exact (by (with_reducible repeat (first | apply Kd.S_alloc | apply Kd.S_drewN | apply Kd.S_drew)); exact Kd.S_mono HO_3.out (fun k_ hk => ⟨trivial, fun e_ => hk.2 e_⟩))); (case aS => exact (below_size (by repeat (first | (with_reducible first | exact HB.out | apply below_alloc | apply pw_below_drewN | apply below_drew1) | exact HB.out)))); (case aL => have := LMc6.out; omega); intro v106 w8 ho hb hg hat; rw [← Ny105.out] at ho; have n0_ := Aside0.mk (hb); have n1_ := Aside0.mk (ho); clear HB; clear HO_3; clear HO104; have HB := n0_; have HO107 := n1_; clear n0_ n1_; clear ho hb hg hat))
                go_roundg k1
                case measure => have := HK1.out; omega
                case rel => exact ⟨(y105), (wrap64 (x8_1 + 1)), (by first | rfl | (simp; done) | (simp [*]; done)), H', ⟨by have := HK1.out; omega⟩, ⟨by (with_reducible repeat (first | apply Kd.S_alloc | apply Kd.S_drewN | apply Kd.S_drew)); exact HO107.out⟩, ⟨by repeat (first | (with_reducible first | exact HB.out | apply below_alloc | apply pw_below_drewN | apply below_drew1) | exact HB.out)⟩⟩
              · rw [if_neg c6] at H
                exact absurd H (by simp)
            · rw [if_neg c5] at H
              exact absurd H (by simp)
          · rw [if_neg c4] at H
            exact absurd H (by simp)
        · rw [if_neg c3] at H
          exact absurd H (by simp)
      · rw [if_neg c2] at H
        have c2b0 : decide (x8_1 < (l0.length : Int)) = false := decide_eq_false c2
        clear c2
        obtain rfl := Option.some.inj H
        go_wp2
        go_ret
        exact ⟨_, by first | rfl | (simp [errW_none, errW_some] <;> rfl) | (simp [*, errW_none, errW_some] <;> rfl), by (with_reducible repeat (first | apply Kd.S_alloc | apply Kd.S_drewN | apply Kd.S_drew)); exact HO_3.out, by repeat (first | (with_reducible first | exact HB.out | apply below_alloc | apply pw_below_drewN | apply below_drew1) | exact HB.out)⟩

/-! ### reedsolomon_matrix_IsSquare: function 54 -/
def reedsolomon_matrix_IsSquare.f (l0 : List (List Int)) : Option (Bool) := if 0 < (l0.length : Int) then (some ((l0.length : Int) == ((rd_L1 l0 0).length : Int))) else (none)
set_option maxHeartbeats 8000000 in
set_option maxRecDepth 100000 in
theorem reedsolomon_matrix_IsSquare.calls (A0 : Option Addr) (c0 : Nat) (l0 : List (List Int)) (r : Bool) (w : World) (hr0 : Kd.C (Kd.slice 5 (Kd.int .u8)) w A0 l0.length l0) (hc0 : l0.length ≤ c0) (h : reedsolomon_matrix_IsSquare.f l0 = some r) :
    Calls Tryd.prog 54 #[.slice A0 l0.length c0] w fun e w' => e = .returned (.bool r) ∧ Drawn0 w w' := by
  have HR0 := Aside0.mk hr0
  have HC0 := Aside0.mk hc0
  clear hr0 hc0
  have H : (if 0 < (l0.length : Int) then (some ((l0.length : Int) == ((rd_L1 l0 0).length : Int))) else (none)) = some r := h
  clear h
  by_cases c2 : 0 < (l0.length : Int)
  · rw [if_pos c2] at H
    have c2b0 : decide (0 < (l0.length : Int)) = true := decide_eq_true c2
    have c2b1 : decide (0 < l0.length) = true := decide_eq_true (by omega)
    clear c2
    obtain rfl := Option.some.inj H
    have p108 : 0 ≤ (0 : Int) := (by omega)
    have q108 : 0 < (l0.length : Int) := of_decide_eq_true (by first | (with_reducible assumption) | assumption)
    obtain ⟨ad108, A108_0, c108_0, e108, hx108_0, hl108_0, hi108_0⟩ := at_L1 HR0.out 0 p108 q108
    cases e108
    have qi108 : (0 < l0.length) = True := eq_true (by omega)
    (try rw [show ((0 : Int)).toNat = 0 from rfl] at hx108_0)
    (try rw [Addr.add_zero'] at hx108_0)
    have HR108_0 := Aside0.mk hi108_0
    have HC108_0 := Aside0.mk hl108_0
    clear hi108_0 hl108_0
    replace p108 := eq_true p108
    replace q108 := eq_true q108
    go_enter Tryd.func54, Tryd.ntmps54
    go_wp2
    go_ret
    exact ⟨by first | rfl | (simp; done) | (simp [*]; done), by repeat (first | exact Drawn0.refl _ | apply Drawn0.step)⟩
  · rw [if_neg c2] at H
    exact absurd H (by simp)

/-! ### reedsolomon_DoorSquare: function 38 -/
def reedsolomon_DoorSquare.f (l0 : List (List Int)) : Option (Bool) := (reedsolomon_matrix_IsSquare.f l0).bind fun t109 => (some t109)
set_option maxHeartbeats 8000000 in
set_option maxRecDepth 100000 in
theorem reedsolomon_DoorSquare.calls (A0 : Option Addr) (c0 : Nat) (l0 : List (List Int)) (r : Bool) (w : World) (hr0 : Kd.C (Kd.slice 5 (Kd.int .u8)) w A0 l0.length l0) (hc0 : l0.length ≤ c0) (h : reedsolomon_DoorSquare.f l0 = some r) :
    Calls Tryd.prog 38 #[.slice A0 l0.length c0] w fun e w' => e = .returned (.bool r) ∧ Drawn0 w w' := by
  have HR0 := Aside0.mk hr0
  have HC0 := Aside0.mk hc0
  clear hr0 hc0
  have H : ((reedsolomon_matrix_IsSquare.f l0).bind fun t109 => (some t109)) = some r := h
  clear h
  replace H := Option.bind_eq_some_iff.mp H
  obtain ⟨t109, A20, H⟩ := H
  replace H : (some t109) = some r := H
  have A2 := Aside0.mk A20
  clear A20
  obtain rfl := Option.some.inj H
  go_enter Tryd.func38, Tryd.ntmps38
  go_wp2_with (first | ((with_reducible refine gate_callee (f := 54) rfl ?_); refine goesL_ (some 4) rfl rfl Tryd.func54 (by kernel_rfl) rfl #[.slice A0 l0.length c0] rfl (by (try simp only [List.map_toArray, List.map_cons, List.map_nil]); first | done | rfl | (simp only [List.length_drop, List.length_take]; rfl)) ?_; (with_reducible refine (reedsolomon_matrix_IsSquare.calls _ _ l0 t109 _ ?side1 ?side2 A2.out).mono ?_); (case side1 => repeat (first | exact HR0.out | (with_reducible refine Kd.C_alloc ?_ _) | (with_reducible refine Kd.C_drewN ?_ _) | (with_reducible refine Kd.C_drew ?_))); (case side2 => exact HC0.out); rintro e w' ⟨rfl, ⟨nd, rfl⟩⟩; refine ⟨_, rfl, ?_⟩))
  go_ret
  exact ⟨by first | rfl | (simp; done) | (simp [*]; done), by repeat (first | exact Drawn0.refl _ | apply Drawn0.step)⟩

end Go.Proofs.YtladpdeneiaaeaaDoor.PShp
