-- Written by a program of this session (wip/tools)
import Derived.Test.YtladpdeneiaaeaaDoorPInvx0
import Derived.Test.YtladpdeneiaaeaaDoorPInvx1
import Derived.Test.YtladpdeneiaaeaaDoorPInvx2
import Derived.Test.YtladpdeneiaaeaaDoorPInvx4
import Derived.Test.YtladpdeneiaaeaaDoorExtInv
import Derived.Test.YtladpdeneiaaeaaDoorExtInvR
namespace Go.Proofs.YtladpdeneiaaeaaDoor.PInv
open Go.RowKit Go.Proofs.YtladpdeneiaaeaaDoorW.PrintWords Go.Proofs.YtladpdeneiaaeaaDoorW.PrintLast Go.Proofs.YtladpdeneiaaeaaDoorW.PrintMore
attribute [local go_sem] max2_int min2_int max_two min_two max_three min_three max_four min_four   -- for this text's walks alone
set_option linter.unusedVariables false
set_option linter.unusedSimpArgs false

/-! ### laws_FnMatrixInvertsGreat: function 7 -/
def laws_FnMatrixInvertsGreat.j0 : Nat → List (List Int) → Bool → Option (Bool)
  | 0, _, _ => none
  | k + 1, x0, x25 => if x25 = true then (some true) else ((impl_Invert.f k x0).bind fun bt220 => ((spec_Inverted.f k x0).bind fun bt224 => (if (bt220.2 == bt224.2) = true then (if bt224.2 = true then ((spec_EqualMatrices.f k bt220.1 bt224.1).bind fun t228 => (some t228)) else (some true)) else (none))))
def laws_FnMatrixInvertsGreat.f (k : Nat) (l0 : List (List Int)) : Option (Bool) := (laws_zzFits2.f k l0).bind fun t215 => (if t215 = true then ((laws_moderate.f k ([l0] : List (List (List Int)))).bind fun t217 => (if t217 = true then ((spec_Rectangular.f k l0).bind fun t218 => (if t218 = true then ((spec_Columns.f l0).bind fun t219 => (laws_FnMatrixInvertsGreat.j0 k l0 (t219 != (l0.length : Int)))) else (laws_FnMatrixInvertsGreat.j0 k l0 true))) else (laws_FnMatrixInvertsGreat.j0 k l0 true))) else (some true))
theorem laws_FnMatrixInvertsGreat.mono_l : ∀ k, (∀ y0 y1, LeO (laws_FnMatrixInvertsGreat.j0 k y0 y1) (laws_FnMatrixInvertsGreat.j0 (k + 1) y0 y1))
  | 0 => fun _ _ r h => by simp [laws_FnMatrixInvertsGreat.j0] at h
  | k + 1 => by
    have ih0 := laws_FnMatrixInvertsGreat.mono_l k
    · intro y0 y1
      unfold laws_FnMatrixInvertsGreat.j0
      repeat' first
      | (with_reducible exact ih0 _ _)
      | (with_reducible exact impl_Invert.mono _ _)
      | (with_reducible exact laws_moderate.mono _ _)
      | (with_reducible exact laws_zzFits2.mono _ _)
      | (with_reducible exact spec_EqualMatrices.mono _ _ _)
      | (with_reducible exact spec_Inverted.mono _ _)
      | (with_reducible exact spec_Rectangular.mono _ _)
      | (with_reducible exact LeO.refl _)
      | (with_reducible exact LeO.none _)
      | (with_reducible refine LeO.ite ?_ ?_)
      | (with_reducible refine LeO.bind ?_ (fun _ => ?_))
      | exact ih0 _ _
      | exact impl_Invert.mono _ _
      | exact laws_moderate.mono _ _
      | exact laws_zzFits2.mono _ _
      | exact spec_EqualMatrices.mono _ _ _
      | exact spec_Inverted.mono _ _
      | exact spec_Rectangular.mono _ _
      | exact LeO.none _
      | refine LeO.ite ?_ ?_
      | refine LeO.bind ?_ (fun _ => ?_)
theorem laws_FnMatrixInvertsGreat.mono : ∀ a0 k, LeO (laws_FnMatrixInvertsGreat.f k a0) (laws_FnMatrixInvertsGreat.f (k + 1) a0) := by
  intro a0 k
  have ih0 := laws_FnMatrixInvertsGreat.mono_l k
  unfold laws_FnMatrixInvertsGreat.f
  repeat' first
      | (with_reducible exact ih0 _ _)
      | (with_reducible exact impl_Invert.mono _ _)
      | (with_reducible exact laws_moderate.mono _ _)
      | (with_reducible exact laws_zzFits2.mono _ _)
      | (with_reducible exact spec_EqualMatrices.mono _ _ _)
      | (with_reducible exact spec_Inverted.mono _ _)
      | (with_reducible exact spec_Rectangular.mono _ _)
      | (with_reducible exact LeO.refl _)
      | (with_reducible exact LeO.none _)
      | (with_reducible refine LeO.ite ?_ ?_)
      | (with_reducible refine LeO.bind ?_ (fun _ => ?_))
      | exact ih0 _ _
      | exact impl_Invert.mono _ _
      | exact laws_moderate.mono _ _
      | exact laws_zzFits2.mono _ _
      | exact spec_EqualMatrices.mono _ _ _
      | exact spec_Inverted.mono _ _
      | exact spec_Rectangular.mono _ _
      | exact LeO.none _
      | refine LeO.ite ?_ ?_
      | refine LeO.bind ?_ (fun _ => ?_)
set_option maxHeartbeats 8000000 in
set_option maxRecDepth 100000 in
theorem laws_FnMatrixInvertsGreat.calls (k : Nat) (A0 : Option Addr) (c0 : Nat) (l0 : List (List Int)) (r : Bool) (w : World) (hG : Glob w) (hr0 : Kd.C (Kd.slice 5 (Kd.int .u8)) w A0 l0.length l0) (hc0 : l0.length ≤ c0) (h : laws_FnMatrixInvertsGreat.f k l0 = some r) :
    Calls Tryd.prog 7 #[.slice A0 l0.length c0] w fun e w' => e = .returned (.bool r) ∧ Below w.heap.size w w' := by
  have HR0 := Aside0.mk hr0
  have HC0 := Aside0.mk hc0
  clear hr0 hc0
  have HB := Aside0.mk (Below.refl w.heap.size w)
  have H : ((laws_zzFits2.f k l0).bind fun t215 => (if t215 = true then ((laws_moderate.f k ([l0] : List (List (List Int)))).bind fun t217 => (if t217 = true then ((spec_Rectangular.f k l0).bind fun t218 => (if t218 = true then ((spec_Columns.f l0).bind fun t219 => (laws_FnMatrixInvertsGreat.j0 k l0 (t219 != (l0.length : Int)))) else (laws_FnMatrixInvertsGreat.j0 k l0 true))) else (laws_FnMatrixInvertsGreat.j0 k l0 true))) else (some true))) = some r := h
  clear h
  replace H := Option.bind_eq_some_iff.mp H
  obtain ⟨t215, A20, H⟩ := H
  replace H : (if t215 = true then ((laws_moderate.f k ([l0] : List (List (List Int)))).bind fun t217 => (if t217 = true then ((spec_Rectangular.f k l0).bind fun t218 => (if t218 = true then ((spec_Columns.f l0).bind fun t219 => (laws_FnMatrixInvertsGreat.j0 k l0 (t219 != (l0.length : Int)))) else (laws_FnMatrixInvertsGreat.j0 k l0 true))) else (laws_FnMatrixInvertsGreat.j0 k l0 true))) else (some true)) = some r := H
  have A2 := Aside0.mk A20
  clear A20
  by_cases c3 : t215 = true
  · subst c3
    have H1 : ((laws_moderate.f k ([l0] : List (List (List Int)))).bind fun t217 => (if t217 = true then ((spec_Rectangular.f k l0).bind fun t218 => (if t218 = true then ((spec_Columns.f l0).bind fun t219 => (laws_FnMatrixInvertsGreat.j0 k l0 (t219 != (l0.length : Int)))) else (laws_FnMatrixInvertsGreat.j0 k l0 true))) else (laws_FnMatrixInvertsGreat.j0 k l0 true))) = some r := by rw [if_pos rfl] at H; exact H
    clear H
    have H := H1
    clear H1
    have HC4 := Aside0.mk H
    clear H
    go_enter Tryd.func7, Tryd.ntmps7
    go_upto_region 3 with (first | ((with_reducible refine gate_callee (f := 14) rfl ?_); refine goesL_ (some 8) rfl rfl Tryd.func14 (by kernel_rfl) rfl #[.slice A0 l0.length c0] rfl (by (try simp only [List.map_toArray, List.map_cons, List.map_nil]); first | done | rfl | (simp only [List.length_drop, List.length_take]; rfl)) ?_; (with_reducible refine (laws_zzFits2.calls k _ _ l0 true _ ?side1 ?side2 A2.out).mono ?_); (case side1 => repeat (first | exact HR0.out | (with_reducible refine Kd.C_alloc ?_ _) | (with_reducible refine Kd.C_drewN ?_ _) | (with_reducible refine Kd.C_drew ?_))); (case side2 => exact HC0.out); rintro e w' ⟨rfl, ⟨nd, rfl⟩⟩; refine ⟨_, rfl, ?_⟩))
    (try simp only [Act.put, List.setIfInBounds_toArray, List.set_cons_zero, List.set_cons_succ])
    go_cut [25] (fun v25 wc => ∃ (kq : Nat) (x25_3 : Bool), v25 = .bool x25_3 ∧ Aside0 (laws_FnMatrixInvertsGreat.j0 kq l0 x25_3 = some r) ∧ Aside0 (kq ≤ k) ∧ Aside0 (Below w.heap.size w wc))
    case first =>
      have H := HC4.out
      clear HC4
      replace H := Option.bind_eq_some_iff.mp H
      obtain ⟨t217, A50, H⟩ := H
      replace H : (if t217 = true then ((spec_Rectangular.f k l0).bind fun t218 => (if t218 = true then ((spec_Columns.f l0).bind fun t219 => (laws_FnMatrixInvertsGreat.j0 k l0 (t219 != (l0.length : Int)))) else (laws_FnMatrixInvertsGreat.j0 k l0 true))) else (laws_FnMatrixInvertsGreat.j0 k l0 true)) = some r := H
      have A5 := Aside0.mk A50
      clear A50
      by_cases c6 : t217 = true
      · subst c6
        have H1 : ((spec_Rectangular.f k l0).bind fun t218 => (if t218 = true then ((spec_Columns.f l0).bind fun t219 => (laws_FnMatrixInvertsGreat.j0 k l0 (t219 != (l0.length : Int)))) else (laws_FnMatrixInvertsGreat.j0 k l0 true))) = some r := by rw [if_pos rfl] at H; exact H
        clear H
        have H := H1
        clear H1
        replace H := Option.bind_eq_some_iff.mp H
        obtain ⟨t218, A70, H⟩ := H
        replace H : (if t218 = true then ((spec_Columns.f l0).bind fun t219 => (laws_FnMatrixInvertsGreat.j0 k l0 (t219 != (l0.length : Int)))) else (laws_FnMatrixInvertsGreat.j0 k l0 true)) = some r := H
        have A7 := Aside0.mk A70
        clear A70
        by_cases c8 : t218 = true
        · subst c8
          have H1 : ((spec_Columns.f l0).bind fun t219 => (laws_FnMatrixInvertsGreat.j0 k l0 (t219 != (l0.length : Int)))) = some r := by rw [if_pos rfl] at H; exact H
          clear H
          have H := H1
          clear H1
          replace H := Option.bind_eq_some_iff.mp H
          obtain ⟨t219, A90, H⟩ := H
          replace H : (laws_FnMatrixInvertsGreat.j0 k l0 (t219 != (l0.length : Int))) = some r := H
          have A9 := Aside0.mk A90
          clear A90
          have H' := Aside0.mk H
          clear H
          go_wp2_with (first | (go_at_call 15; (refine (laws_moderate.calls k _ 1 ([l0] : List (List (List Int))) true _ ?side1 ?side2 A5.out).mono ?_); (case side1 => (repeat (with_reducible refine Kd.C_drewN ?_ _)); exact one_readM (Kd.C_below HR0.out (by repeat (first | (with_reducible first | exact HB.out | apply below_alloc | apply pw_below_drewN | apply below_drew1) | exact HB.out))) HC0.out); (case side2 => exact Nat.le_refl _); rintro e w' ⟨rfl, ⟨nd, rfl⟩⟩) | (go_at_call 17; (with_reducible refine (spec_Rectangular.calls k _ _ l0 true _ ?side1 ?side2 A7.out).mono ?_); (case side1 => repeat (first | exact (Kd.C_below HR0.out (by repeat (first | (with_reducible first | exact HB.out | apply below_alloc | apply pw_below_drewN | apply below_drew1) | exact HB.out))) | (with_reducible refine Kd.C_alloc ?_ _) | (with_reducible refine Kd.C_drewN ?_ _) | (with_reducible refine Kd.C_drew ?_))); (case side2 => exact HC0.out); rintro e w' ⟨rfl, ⟨nd, rfl⟩⟩) | (go_at_call 24; (with_reducible refine (spec_Columns.calls _ _ l0 t219 _ ?side1 ?side2 A9.out).mono ?_); (case side1 => repeat (first | exact (Kd.C_below HR0.out (by repeat (first | (with_reducible first | exact HB.out | apply below_alloc | apply pw_below_drewN | apply below_drew1) | exact HB.out))) | (with_reducible refine Kd.C_alloc ?_ _) | (with_reducible refine Kd.C_drewN ?_ _) | (with_reducible refine Kd.C_drew ?_))); (case side2 => exact HC0.out); rintro e w' ⟨rfl, ⟨nd, rfl⟩⟩))
          go_meet
          case rel => exact ⟨_, ((t219 != (l0.length : Int))), (by first | rfl | (simp; done) | (simp [*]; done)), H', ⟨by first | omega | exact Nat.le_refl _⟩, ⟨by repeat (first | (with_reducible first | exact HB.out | apply below_alloc | apply pw_below_drewN | apply below_drew1) | exact HB.out)⟩⟩
        · replace c8 := Bool.eq_false_iff.mpr c8
          subst c8
          have H1 : (laws_FnMatrixInvertsGreat.j0 k l0 true) = some r := by rw [if_neg (show ¬ (false = true) by decide)] at H; exact H
          clear H
          have H := H1
          clear H1
          have H' := Aside0.mk H
          clear H
          go_wp2_with (first | (go_at_call 15; (refine (laws_moderate.calls k _ 1 ([l0] : List (List (List Int))) true _ ?side1 ?side2 A5.out).mono ?_); (case side1 => (repeat (with_reducible refine Kd.C_drewN ?_ _)); exact one_readM (Kd.C_below HR0.out (by repeat (first | (with_reducible first | exact HB.out | apply below_alloc | apply pw_below_drewN | apply below_drew1) | exact HB.out))) HC0.out); (case side2 => exact Nat.le_refl _); rintro e w' ⟨rfl, ⟨nd, rfl⟩⟩) | (go_at_call 17; (with_reducible refine (spec_Rectangular.calls k _ _ l0 false _ ?side1 ?side2 A7.out).mono ?_); (case side1 => repeat (first | exact (Kd.C_below HR0.out (by repeat (first | (with_reducible first | exact HB.out | apply below_alloc | apply pw_below_drewN | apply below_drew1) | exact HB.out))) | (with_reducible refine Kd.C_alloc ?_ _) | (with_reducible refine Kd.C_drewN ?_ _) | (with_reducible refine Kd.C_drew ?_))); (case side2 => exact HC0.out); rintro e w' ⟨rfl, ⟨nd, rfl⟩⟩))
          go_meet
          case rel => exact ⟨_, (true), (by first | rfl | (simp; done) | (simp [*]; done)), H', ⟨by first | omega | exact Nat.le_refl _⟩, ⟨by repeat (first | (with_reducible first | exact HB.out | apply below_alloc | apply pw_below_drewN | apply below_drew1) | exact HB.out)⟩⟩
      · replace c6 := Bool.eq_false_iff.mpr c6
        subst c6
        have H1 : (laws_FnMatrixInvertsGreat.j0 k l0 true) = some r := by rw [if_neg (show ¬ (false = true) by decide)] at H; exact H
        clear H
        have H := H1
        clear H1
        have H' := Aside0.mk H
        clear H
        go_wp2_with (first | (go_at_call 15; (refine (laws_moderate.calls k _ 1 ([l0] : List (List (List Int))) false _ ?side1 ?side2 A5.out).mono ?_); (case side1 => (repeat (with_reducible refine Kd.C_drewN ?_ _)); exact one_readM (Kd.C_below HR0.out (by repeat (first | (with_reducible first | exact HB.out | apply below_alloc | apply pw_below_drewN | apply below_drew1) | exact HB.out))) HC0.out); (case side2 => exact Nat.le_refl _); rintro e w' ⟨rfl, ⟨nd, rfl⟩⟩))
        go_meet
        case rel => exact ⟨_, (true), (by first | rfl | (simp; done) | (simp [*]; done)), H', ⟨by first | omega | exact Nat.le_refl _⟩, ⟨by repeat (first | (with_reducible first | exact HB.out | apply below_alloc | apply pw_below_drewN | apply below_drew1) | exact HB.out)⟩⟩
    case rest =>
      clear HC4
      try clear c1
      try clear p2
      try clear c3
      try clear c6
      try clear c7
      try clear c8
      obtain ⟨kq, x25_3, rfl, HA, HJ3, HB⟩ := hcut
      cases kq with
      | zero => exact absurd HA.out (by simp [laws_FnMatrixInvertsGreat.j0])
      | succ kj3 =>
        have H := HA.out
        clear HA
        simp only [laws_FnMatrixInvertsGreat.j0] at H
        by_cases c10 : x25_3 = true
        · subst c10
          have H1 : (some true) = some r := by rw [if_pos rfl] at H; exact H
          clear H
          have H := H1
          clear H1
          obtain rfl := Option.some.inj H
          go_wp2
          go_ret
          exact ⟨by first | rfl | (simp [errW_none, errW_some] <;> rfl) | (simp [*, errW_none, errW_some] <;> rfl), by repeat (first | (with_reducible first | exact HB.out | apply below_alloc | apply pw_below_drewN | apply below_drew1) | exact HB.out)⟩
        · replace c10 := Bool.eq_false_iff.mpr c10
          subst c10
          have H1 : ((impl_Invert.f kj3 l0).bind fun bt220 => ((spec_Inverted.f kj3 l0).bind fun bt224 => (if (bt220.2 == bt224.2) = true then (if bt224.2 = true then ((spec_EqualMatrices.f kj3 bt220.1 bt224.1).bind fun t228 => (some t228)) else (some true)) else (none)))) = some r := by rw [if_neg (show ¬ (false = true) by decide)] at H; exact H
          clear H
          have H := H1
          clear H1
          replace H := Option.bind_eq_some_iff.mp H
          obtain ⟨⟨t220, t221⟩, A110, H⟩ := H
          replace H : ((spec_Inverted.f kj3 l0).bind fun bt224 => (if (t221 == bt224.2) = true then (if bt224.2 = true then ((spec_EqualMatrices.f kj3 t220 bt224.1).bind fun t228 => (some t228)) else (some true)) else (none))) = some r := H
          have A11 := Aside0.mk A110
          clear A110
          replace H := Option.bind_eq_some_iff.mp H
          obtain ⟨⟨t224, t225⟩, A120, H⟩ := H
          replace H : (if (t221 == t225) = true then (if t225 = true then ((spec_EqualMatrices.f kj3 t220 t224).bind fun t228 => (some t228)) else (some true)) else (none)) = some r := H
          have A12 := Aside0.mk A120
          clear A120
          by_cases c13 : (t221 == t225) = true
          · rw [if_pos c13] at H
            have c13b0 : (t221 == t225) = true := c13
            (try (have c13b1 : decide (t221 = t225) = true := by simpa using c13))
            (try (have c13b2 : (t221 == t225) = true := by simpa using c13))
            clear c13
            by_cases c14 : t225 = true
            · subst c14
              have H1 : ((spec_EqualMatrices.f kj3 t220 t224).bind fun t228 => (some t228)) = some r := by rw [if_pos rfl] at H; exact H
              clear H
              have H := H1
              clear H1
              replace H := Option.bind_eq_some_iff.mp H
              obtain ⟨t228, A150, H⟩ := H
              replace H : (some t228) = some r := H
              have A15 := Aside0.mk A150
              clear A150
              obtain rfl := Option.some.inj H
              go_wp2_with (first | ((with_reducible refine gate_callee (f := 25) rfl ?_); refine goesL_ (some 28) rfl rfl Tryd.func25 (by kernel_rfl) rfl #[.slice A0 l0.length c0] rfl (by (try simp only [List.map_toArray, List.map_cons, List.map_nil]); first | done | rfl | (simp only [List.length_drop, List.length_take]; rfl)) ?_; (with_reducible refine (impl_Invert.calls kj3 _ _ l0 t220 t221 _ ?side3 ?side1 ?side2 A11.out).mono ?_); (case side1 => repeat (first | exact (Kd.C_below HR0.out HB.out) | (with_reducible refine Kd.C_alloc ?_ _) | (with_reducible refine Kd.C_drewN ?_ _) | (with_reducible refine Kd.C_drew ?_))); (case side2 => exact HC0.out); (case side3 => exact Glob.below hG (by repeat (first | (with_reducible first | exact HB.out | apply below_alloc | apply pw_below_drewN | apply below_drew1) | exact HB.out))); rintro e w16 ⟨v222, rfl, ho0, hb⟩; refine ⟨_, rfl, ?_⟩; have n0_ := Aside0.mk (Kd.S_lower ho0 (below_size (by repeat (first | (with_reducible first | exact HB.out | apply below_alloc | apply pw_below_drewN | apply below_drew1) | exact HB.out)))); have n1_ := Aside0.mk (below_step (by repeat (first | (with_reducible first | exact HB.out | apply below_alloc | apply pw_below_drewN | apply below_drew1) | exact HB.out)) hb); clear HB; have HO223 := n0_; have HB := n1_; clear n0_ n1_; (try clear hb); (try clear hb2); (try clear hk); (try clear hi); (try clear ho0)) | ((with_reducible refine gate_callee (f := 26) rfl ?_); refine goesL_ (some 33) rfl rfl Tryd.func26 (by kernel_rfl) rfl #[.slice A0 l0.length c0] rfl (by (try simp only [List.map_toArray, List.map_cons, List.map_nil]); first | done | rfl | (simp only [List.length_drop, List.length_take]; rfl)) ?_; (with_reducible refine (spec_Inverted.calls kj3 _ _ l0 t224 true _ ?side1 ?side2 A12.out).mono ?_); (case side1 => repeat (first | exact (Kd.C_below HR0.out HB.out) | (with_reducible refine Kd.C_alloc ?_ _) | (with_reducible refine Kd.C_drewN ?_ _) | (with_reducible refine Kd.C_drew ?_))); (case side2 => exact HC0.out); rintro e w17 ⟨v226, rfl, ho0, hb⟩; refine ⟨_, rfl, ?_⟩; have n0_ := Aside0.mk (Kd.S_elder' (by (with_reducible repeat (first | apply Kd.S_alloc | apply Kd.S_drewN | apply Kd.S_drew)); exact HO223.out) (Kd.S_base ho0) hb); have n1_ := Aside0.mk (Kd.S_lower (Kd.S_new' ho0 (Kd.S_lt (by (with_reducible repeat (first | apply Kd.S_alloc | apply Kd.S_drewN | apply Kd.S_drew)); exact HO223.out))) (below_size (by repeat (first | (with_reducible first | exact HB.out | apply below_alloc | apply pw_below_drewN | apply below_drew1) | exact HB.out)))); have n2_ := Aside0.mk (below_step (by repeat (first | (with_reducible first | exact HB.out | apply below_alloc | apply pw_below_drewN | apply below_drew1) | exact HB.out)) hb); clear HO223; clear HB; have HO223 := n0_; have HO227 := n1_; have HB := n2_; clear n0_ n1_ n2_; (try clear hb); (try clear hb2); (try clear hk); (try clear hi); (try clear ho0); obtain ⟨Ao18, co18, eo18⟩ := Kd.S_slice HO223.out; subst eo18; obtain ⟨Ao19, co19, eo19⟩ := Kd.S_slice HO227.out; subst eo19) | (go_at_call 23; (with_reducible refine (spec_EqualMatrices.calls kj3 _ _ t220 _ _ t224 t228 _ ?side1 ?side2 ?side3 ?side4 A15.out).mono ?_); (case side1 => repeat (first | exact (Kd.S_reads' HO223.out).2.2 | (with_reducible refine Kd.C_alloc ?_ _) | (with_reducible refine Kd.C_drewN ?_ _) | (with_reducible refine Kd.C_drew ?_))); (case side2 => exact (Kd.S_reads' HO223.out).2.1); (case side3 => repeat (first | exact (Kd.S_reads' HO227.out).2.2 | (with_reducible refine Kd.C_alloc ?_ _) | (with_reducible refine Kd.C_drewN ?_ _) | (with_reducible refine Kd.C_drew ?_))); (case side4 => exact (Kd.S_reads' HO227.out).2.1); rintro e w' ⟨rfl, ⟨nd, rfl⟩⟩))
              go_ret
              exact ⟨by first | rfl | (simp [errW_none, errW_some] <;> rfl) | (simp [*, errW_none, errW_some] <;> rfl), by repeat (first | (with_reducible first | exact HB.out | apply below_alloc | apply pw_below_drewN | apply below_drew1) | exact HB.out)⟩
            · replace c14 := Bool.eq_false_iff.mpr c14
              subst c14
              have H1 : (some true) = some r := by rw [if_neg (show ¬ (false = true) by decide)] at H; exact H
              clear H
              have H := H1
              clear H1
              obtain rfl := Option.some.inj H
              go_wp2_with (first | ((with_reducible refine gate_callee (f := 25) rfl ?_); refine goesL_ (some 28) rfl rfl Tryd.func25 (by kernel_rfl) rfl #[.slice A0 l0.length c0] rfl (by (try simp only [List.map_toArray, List.map_cons, List.map_nil]); first | done | rfl | (simp only [List.length_drop, List.length_take]; rfl)) ?_; (with_reducible refine (impl_Invert.calls kj3 _ _ l0 t220 t221 _ ?side3 ?side1 ?side2 A11.out).mono ?_); (case side1 => repeat (first | exact (Kd.C_below HR0.out HB.out) | (with_reducible refine Kd.C_alloc ?_ _) | (with_reducible refine Kd.C_drewN ?_ _) | (with_reducible refine Kd.C_drew ?_))); (case side2 => exact HC0.out); (case side3 => exact Glob.below hG (by repeat (first | (with_reducible first | exact HB.out | apply below_alloc | apply pw_below_drewN | apply below_drew1) | exact HB.out))); rintro e w20 ⟨v222, rfl, ho0, hb⟩; refine ⟨_, rfl, ?_⟩; have n0_ := Aside0.mk (Kd.S_lower ho0 (below_size (by repeat (first | (with_reducible first | exact HB.out | apply below_alloc | apply pw_below_drewN | apply below_drew1) | exact HB.out)))); have n1_ := Aside0.mk (below_step (by repeat (first | (with_reducible first | exact HB.out | apply below_alloc | apply pw_below_drewN | apply below_drew1) | exact HB.out)) hb); clear HB; have HO223 := n0_; have HB := n1_; clear n0_ n1_; (try clear hb); (try clear hb2); (try clear hk); (try clear hi); (try clear ho0)) | ((with_reducible refine gate_callee (f := 26) rfl ?_); refine goesL_ (some 33) rfl rfl Tryd.func26 (by kernel_rfl) rfl #[.slice A0 l0.length c0] rfl (by (try simp only [List.map_toArray, List.map_cons, List.map_nil]); first | done | rfl | (simp only [List.length_drop, List.length_take]; rfl)) ?_; (with_reducible refine (spec_Inverted.calls kj3 _ _ l0 t224 false _ ?side1 ?side2 A12.out).mono ?_); (case side1 => repeat (first | exact (Kd.C_below HR0.out HB.out) | (with_reducible refine Kd.C_alloc ?_ _) | (with_reducible refine Kd.C_drewN ?_ _) | (with_reducible refine Kd.C_drew ?_))); (case side2 => exact HC0.out); rintro e w21 ⟨v226, rfl, ho0, hb⟩; refine ⟨_, rfl, ?_⟩; have n0_ := Aside0.mk (Kd.S_elder' (by (with_reducible repeat (first | apply Kd.S_alloc | apply Kd.S_drewN | apply Kd.S_drew)); exact HO223.out) (Kd.S_base ho0) hb); have n1_ := Aside0.mk (Kd.S_lower (Kd.S_new' ho0 (Kd.S_lt (by (with_reducible repeat (first | apply Kd.S_alloc | apply Kd.S_drewN | apply Kd.S_drew)); exact HO223.out))) (below_size (by repeat (first | (with_reducible first | exact HB.out | apply below_alloc | apply pw_below_drewN | apply below_drew1) | exact HB.out)))); have n2_ := Aside0.mk (below_step (by repeat (first | (with_reducible first | exact HB.out | apply below_alloc | apply pw_below_drewN | apply below_drew1) | exact HB.out)) hb); clear HO223; clear HB; have HO223 := n0_; have HO227 := n1_; have HB := n2_; clear n0_ n1_ n2_; (try clear hb); (try clear hb2); (try clear hk); (try clear hi); (try clear ho0)))
              go_ret
              exact ⟨by first | rfl | (simp [errW_none, errW_some] <;> rfl) | (simp [*, errW_none, errW_some] <;> rfl), by repeat (first | (with_reducible first | exact HB.out | apply below_alloc | apply pw_below_drewN | apply below_drew1) | exact HB.out)⟩
          · rw [if_neg c13] at H
            exact absurd H (by simp)
  · replace c3 := Bool.eq_false_iff.mpr c3
    subst c3
    have H1 : (some true) = some r := by rw [if_neg (show ¬ (false = true) by decide)] at H; exact H
    clear H
    have H := H1
    clear H1
    obtain rfl := Option.some.inj H
    go_enter Tryd.func7, Tryd.ntmps7
    go_wp2_with (first | ((with_reducible refine gate_callee (f := 14) rfl ?_); refine goesL_ (some 8) rfl rfl Tryd.func14 (by kernel_rfl) rfl #[.slice A0 l0.length c0] rfl (by (try simp only [List.map_toArray, List.map_cons, List.map_nil]); first | done | rfl | (simp only [List.length_drop, List.length_take]; rfl)) ?_; (with_reducible refine (laws_zzFits2.calls k _ _ l0 false _ ?side1 ?side2 A2.out).mono ?_); (case side1 => repeat (first | exact HR0.out | (with_reducible refine Kd.C_alloc ?_ _) | (with_reducible refine Kd.C_drewN ?_ _) | (with_reducible refine Kd.C_drew ?_))); (case side2 => exact HC0.out); rintro e w' ⟨rfl, ⟨nd, rfl⟩⟩; refine ⟨_, rfl, ?_⟩))
    go_ret
    exact ⟨by first | rfl | (simp [errW_none, errW_some] <;> rfl) | (simp [*, errW_none, errW_some] <;> rfl), by repeat (first | (with_reducible first | exact HB.out | apply below_alloc | apply pw_below_drewN | apply below_drew1) | exact HB.out)⟩

end Go.Proofs.YtladpdeneiaaeaaDoor.PInv
