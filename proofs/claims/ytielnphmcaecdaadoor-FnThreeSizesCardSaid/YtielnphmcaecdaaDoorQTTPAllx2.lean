-- Written by a program of this session (wip/tools)
import Derived.Test.YtielnphmcaecdaaDoorQTTTreeMem
set_option maxHeartbeats 8000000
set_option maxRecDepth 100000
set_option linter.unusedVariables false
set_option linter.unusedSimpArgs false
namespace Go.Proofs.YtielnphmcaecdaaDoor.PAll
open Go.RowKit Go.Proofs.YtielnphmcaecdaaDoorW.PrintWords Go.Proofs.YtielnphmcaecdaaDoorW.PrintLast Go.Proofs.YtielnphmcaecdaaDoorW.PrintMore
attribute [local go_sem] max2_int min2_int max_two min_two max_three min_three max_four min_four   -- for this text's walks alone
def impl_texts.l0 : Nat → List (List Int) → List (List Int) → Int → Int → Option ((List (List Int)))
 | 0, _, _, _, _ => none
 | k + 1, x3, x6, x7, x8 => if x8 < x7 then (if 0 ≤ x8 then (if x8 < (x6.length : Int) then ((some (([] : List Int) : List Int)).bind fun y102 => (if y102.length + (rd_L1 x6 x8).length < 140737488355328 then (if x3.length < 5864062014805 then (impl_texts.l0 k (x3 ++ [(y102 ++ (rd_L1 x6 x8))]) x6 x7 (wrap64 (x8 + 1))) else (none)) else (none))) else (none)) else (none)) else (some x3)
def impl_texts.f (k : Nat) (l0 : List (List Int)) : Option ((List (List Int))) := impl_texts.l0 k ([] : List (List Int)) l0 (l0.length : Int) 0
theorem impl_texts.mono_l : ∀ k, (∀ y0 y1 y2 y3, LeO (impl_texts.l0 k y0 y1 y2 y3) (impl_texts.l0 (k + 1) y0 y1 y2 y3))
 | 0 => fun _ _ _ _ r h => by simp [impl_texts.l0] at h
 | k + 1 => by
  have ih0 := impl_texts.mono_l k
  ·intro y0 y1 y2 y3
   unfold impl_texts.l0
   repeat' first
   | (with_reducible exact ih0 _ _ _ _)
   | (with_reducible exact LeO.refl _)
   | (with_reducible refine LeO.ite ?_ ?_)
   | (with_reducible refine LeO.bind ?_ (fun _ => ?_))
theorem impl_texts.mono : ∀ a0 k, LeO (impl_texts.f k a0) (impl_texts.f (k + 1) a0) := by
 intro a0 k
 have ih0 := impl_texts.mono_l k
 unfold impl_texts.f
 repeat' first
  | (with_reducible exact ih0 _ _ _ _)
theorem impl_texts.calls (k : Nat) (A0 : Option Addr) (c0 : Nat) (l0 : List (List Int)) (r : List (List Int)) (w : World) (hr0 : Kd.C (Kd.slice 5 (Kd.int .u8)) w A0 l0.length l0) (hc0 : l0.length ≤ c0) (h : impl_texts.f k l0 = some r) :
 Calls Tryd.prog 45 #[.slice A0 l0.length c0] w fun e w' => ∃ v0_ : Value, e = .returned (v0_) ∧ Kd.S (Kd.slice 5 (Kd.int .u8)) 27 w' w.heap.size (fun _ => True) v0_ r ∧ Below w.heap.size w w' := by
 have HR0 := Aside0.mk hr0
 have HC0 := Aside0.mk hc0
 clear hr0 hc0
 have HB := Aside0.mk (Below.refl w.heap.size w)
 have H : (impl_texts.l0 k ([] : List (List Int)) l0 (l0.length : Int) 0) = some r := h
 clear h
 have H' := Aside0.mk H
 clear H
 go_enter Tryd.func45, Tryd.ntmps45
 go_wp2
 try simp only [Act.put, List.setIfInBounds_toArray, List.set_cons_zero, List.set_cons_succ]
 go_loopg [3, 8] k (fun kq v3 v8 w' => ∃ (x3_1 : List (List Int)) (x8_1 : Int), v8 = .int .i64 x8_1 ∧ Aside0 (impl_texts.l0 kq x3_1 l0 (l0.length : Int) x8_1 = some r) ∧ Aside0 (kq ≤ k) ∧ Aside0 (Kd.S (Kd.slice 5 (Kd.int .u8)) 27 w' w.heap.size (fun _ => True) v3 x3_1) ∧ Aside0 (Below w.heap.size w w'))
 case atStart => exact ⟨(([] : List (List Int))), (0), (by first | rfl), H', ⟨Nat.le_refl _⟩, ⟨by first | exact Kd.S_nil _ _ _ _ _⟩, ⟨by repeat (first | (with_reducible first | exact HB.out))⟩⟩
 case round =>
  clear H'
  obtain ⟨x3_1, x8_1, rfl, HA, HK1, HO_3, HB⟩ := hrel
  cases gk with
  | zero => exact absurd HA.out (by simp [impl_texts.l0])
  | succ k1 =>
   have H := HA.out
   clear HA
   simp only [impl_texts.l0] at H
   by_cases c2 : x8_1 < (l0.length : Int)
   ·rw [if_pos c2] at H
    have c2b0 : decide (x8_1 < (l0.length : Int)) = true := decide_eq_true c2
    clear c2
    by_cases c3 : 0 ≤ x8_1
    ·rw [if_pos c3] at H
     have c3b0 : decide (0 ≤ x8_1) = true := decide_eq_true c3
     clear c3
     by_cases c4 : x8_1 < (l0.length : Int)
     ·rw [if_pos c4] at H
      have c4b0 : decide (x8_1 < (l0.length : Int)) = true := decide_eq_true c4
      clear c4
      obtain ⟨y102, hy102⟩ : ∃ y_ : List Int, y_ = (([] : List Int)) := ⟨_, rfl⟩
      replace H : (if y102.length + (rd_L1 l0 x8_1).length < 140737488355328 then (if x3_1.length < 5864062014805 then (impl_texts.l0 k1 (x3_1 ++ [(y102 ++ (rd_L1 l0 x8_1))]) l0 (l0.length : Int) (wrap64 (x8_1 + 1))) else (none)) else (none)) = some r := by first | (have H2_ := (Option.bind_some _ _).symm.trans H; rw [hy102]; with_reducible exact H2_)
      have Ny102 := Aside0.mk hy102
      clear hy102
      by_cases c5 : y102.length + (rd_L1 l0 x8_1).length < 140737488355328
      ·rw [if_pos c5] at H
       have LMc5 := Aside0.mk c5
       clear c5
       obtain ⟨y105, hy105⟩ : ∃ y_ : List Int, y_ = (y102 ++ (rd_L1 l0 x8_1)) := ⟨_, rfl⟩
       replace H : (if x3_1.length < 5864062014805 then (impl_texts.l0 k1 (x3_1 ++ [y105]) l0 (l0.length : Int) (wrap64 (x8_1 + 1))) else (none)) = some r := by first | (rw [hy105]; with_reducible exact H)
       have Ny105 := Aside0.mk hy105
       clear hy105
       by_cases c6 : x3_1.length < 5864062014805
       ·rw [if_pos c6] at H
        have LMc6 := Aside0.mk c6
        clear c6
        obtain ⟨y108, hy108⟩ : ∃ y_ : List (List Int), y_ = (x3_1 ++ [y105]) := ⟨_, rfl⟩
        replace H : (impl_texts.l0 k1 y108 l0 (l0.length : Int) (wrap64 (x8_1 + 1))) = some r := by first | (rw [hy108]; with_reducible exact H)
        have Ny108 := Aside0.mk hy108
        clear hy108
        have H' := Aside0.mk H
        clear H
        have p101 : 0 ≤ (x8_1 : Int) := of_decide_eq_true (by first | (with_reducible assumption))
        have q101 : x8_1 < (l0.length : Int) := of_decide_eq_true (by first | (with_reducible assumption))
        obtain ⟨ad101, A101_0, c101_0, e101, hx101_0, hl101_0, hi101_0⟩ := at_L1 HR0.out x8_1 p101 q101
        cases e101
        replace hx101_0 := (HB.out.cell (World.block_lt_of_cell? w _ hx101_0)).trans hx101_0
        have HR101_0 := Aside0.mk hi101_0
        have HC101_0 := Aside0.mk hl101_0
        clear hi101_0 hl101_0
        replace p101 := eq_true p101
        replace q101 := eq_true q101
        go_wp2_with (first | ((with_reducible refine gate_dst (N := 13) rfl ?_); refine Kd.R_lit (Kd.int .u8) _ 5 ?hg (N := 13) ?hd (xs := ([] : List Int)) (inner := []) (ok := fun _ => True) (okp := fun _ => True) ?hr ?hp (fun _ hk => hk) trivial (Below.refl _ _) (Nat.le_refl _) (by simp) ?_; (case hd => rfl); (case hg => rfl); (case hr => first | (go_simp; done)); (case hp => exact (Reps.none _ _)); intro v103 w7 ho8 hb hg_ hnew_; clear hg_ hnew_; (first | rw [← Ny102.out] at ho8); have n0_ := Aside0.mk (Kd.S_elder' (by exact HO_3.out) (Kd.R_base ho8) hb); have n1_ := Aside0.mk (Kd.R_lower ho8 (below_size (by repeat (first | (with_reducible first | exact HB.out))))); have n2_ := Aside0.mk (below_step (by repeat (first | (with_reducible first | exact HB.out))) hb); clear HO_3; clear HB; have HO_3 := n0_; have HO104 := n1_; have HB := n2_; clear n0_ n1_ n2_; clear hb ho8) | ((with_reducible refine gate_builtin (b := .append) (xs := #[.tmp 13, .tmp 14]) rfl ?_); at_builtin; refine Kd.R_append_rows (Kd.int .u8) (w0 := w) w.heap.size rfl (.tmp 13) (.tmp 14) 27 5 (.int .u8 0) 1 rfl Tryd.underlying27 info5 rfl (by decide) (by omega) v103 y102 (rd_L1 l0 x8_1) _ _ _ (fun _ => True) (fun _ => False) rfl rfl ?aO ?aR (fun _ _ h => h) (fun _ h => h.elim) ?aF ?aB ?aS ?aL ?_; (case aR => repeat (first | exact (Kd.C_below HR101_0.out HB.out))); (case aB => exact (by repeat (first | (with_reducible first | exact HB.out)))); (case aF => exact (fun _ _ => trivial)); (case aO => exact (by exact HO104.out)); (case aS => exact (below_size (by repeat (first | (with_reducible first | exact HB.out))))); (case aL => have := LMc5.out; omega); intro v106 w9 ho hb hg hat; rw [← Ny105.out] at ho; have n0_ := Aside0.mk (Kd.S_after (ok := (fun _ => True)) (by exact HO_3.out) hg hat); have n1_ := Aside0.mk (hb); have n2_ := Aside0.mk (ho); clear HO_3; clear HB; clear HO104; have HO_3 := n0_; have HB := n1_; have HO107 := n2_; clear n0_ n1_ n2_; clear ho hb hg hat; obtain ⟨Ao11, co11, eo11⟩ := Kd.R_slice HO107.out; subst eo11) | ((with_reducible refine gate_builtin (b := .append) (xs := #[.tmp 12, .tmp 16]) rfl ?_); at_builtin; refine Kd.S_append (Kd.slice 5 (Kd.int .u8)) (w0 := w) w.heap.size rfl (.tmp 12) (.tmp 16) 25 27 (.slice none 0 0) 24 rfl Tryd.underlying25 info27 rfl (by decide) (by omega) u3 x3_1 y105 [.slice Ao11 y105.length co11] (fun _ => True) (fun k_ => some k_ = (.slice Ao11 y105.length co11 : Value).ownBlock) rfl rfl ?aP (fun k_ hk_ => ((Kd.R_mono (ok' := fun k_ => ((fun _ => True)) k_ ∧ some k_ ≠ (u3 : Value).ownBlock) (Kd.R_apart' (HO107.out) (Kd.S_typed HO_3.out) (by decide)) (fun k_ hk => ⟨trivial, hk.2⟩))).1 k_ hk_.symm) ?aF ?aO ?aB ?aS ?aL ?_; (case aP => exact Kd.M_row (Kd.R_mono (Kd.R_tight rfl (Kd.R_mono (ok' := fun k_ => ((fun _ => True)) k_ ∧ some k_ ≠ (u3 : Value).ownBlock) (Kd.R_apart' (HO107.out) (Kd.S_typed HO_3.out) (by decide)) (fun k_ hk => ⟨trivial, hk.2⟩))) (fun _ h_ => h_))); (case aB => exact (by repeat (first | (with_reducible first | exact HB.out)))); (case aF => exact (fun _ _ => trivial)); (case aO => exact (by exact Kd.S_mono HO_3.out (fun k_ hk => ⟨trivial, fun e_ => hk.2 e_⟩))); (case aS => exact (below_size (by repeat (first | (with_reducible first | exact HB.out))))); (case aL => have := LMc6.out; omega); intro v109 w10 ho hb hg hat; rw [← Ny108.out] at ho; have n0_ := Aside0.mk (hb); have n1_ := Aside0.mk (ho); clear HB; clear HO_3; clear HO107; have HB := n0_; have HO110 := n1_; clear n0_ n1_; clear ho hb hg hat))
        go_roundg k1
        case measure => have := HK1.out; omega
        case rel => exact ⟨(y108), (wrap64 (x8_1 + 1)), (by first | rfl), H', ⟨by have := HK1.out; omega⟩, ⟨by exact HO110.out⟩, ⟨by repeat (first | (with_reducible first | exact HB.out))⟩⟩
       ·rw [if_neg c6] at H
        exact absurd H (by simp)
      ·rw [if_neg c5] at H
       exact absurd H (by simp)
     ·rw [if_neg c4] at H
      exact absurd H (by simp)
    ·rw [if_neg c3] at H
     exact absurd H (by simp)
   ·rw [if_neg c2] at H
    have c2b0 : decide (x8_1 < (l0.length : Int)) = false := decide_eq_false c2
    clear c2
    obtain rfl := Option.some.inj H
    go_wp2
    go_ret
    exact ⟨_, by first | rfl, by exact HO_3.out, by repeat (first | (with_reducible first | exact HB.out))⟩
mutual
def impl_word.j0 : Nat → Int → Int → Bool → Option (List Int)
 | 0, _, _, _ => none
 | k + 1, x0, x1, x12 => if x12 = true then (impl_word.j1 k x0 8) else (impl_word.j1 k x0 x1)
def impl_word.j1 : Nat → Int → Int → Option (List Int)
 | 0, _, _ => none
 | k + 1, x0, x1 => if 0 ≤ x1 then (if (x1 : Int).toNat ≤ 281474976710656 then ((some (List.replicate (x1 : Int).toNat 0 : List Int)).bind fun y111 => (impl_word.l0 k x0 x1 y111 (y111.length : Int) 0)) else (none)) else (none)
def impl_word.l0 : Nat → Int → Int → List Int → Int → Int → Option (List Int)
 | 0, _, _, _, _, _ => none
 | k + 1, x0, x1, x5, x16, x17 => if x17 < x16 then (if 0 ≤ (wrap64 (8 * x17)) then (if 0 ≤ (wrap64 ((wrap64 (x1 - 1)) - x17)) then (if (wrap64 ((wrap64 (x1 - 1)) - x17)) < (x5.length : Int) then (impl_word.l0 k x0 x1 (x5.set ((wrap64 ((wrap64 (x1 - 1)) - x17)) : Int).toNat ((shr .u64 x0 (wrap64 (8 * x17))) % 256)) x16 (wrap64 (x17 + 1))) else (none)) else (none)) else (none)) else (some x5)
end
def impl_word.f (k : Nat) (a0 : Int) (a1 : Int) : Option (List Int) := if a1 < 1 then (impl_word.j0 k a0 a1 true) else (impl_word.j0 k a0 a1 (decide (a1 > 8)))
theorem impl_word.mono_l : ∀ k, (∀ y0 y1 y2, LeO (impl_word.j0 k y0 y1 y2) (impl_word.j0 (k + 1) y0 y1 y2)) ∧ (∀ y0 y1, LeO (impl_word.j1 k y0 y1) (impl_word.j1 (k + 1) y0 y1)) ∧ (∀ y0 y1 y2 y3 y4, LeO (impl_word.l0 k y0 y1 y2 y3 y4) (impl_word.l0 (k + 1) y0 y1 y2 y3 y4))
 | 0 => ⟨fun _ _ _ r h => by simp [impl_word.j0] at h, fun _ _ r h => by simp [impl_word.j1] at h, fun _ _ _ _ _ r h => by simp [impl_word.l0] at h⟩
 | k + 1 => by
  obtain ⟨ih0, ih1, ih2⟩ := impl_word.mono_l k
  refine ⟨?_, ?_, ?_⟩
  ·intro y0 y1 y2
   unfold impl_word.j0
   repeat' first
   | (with_reducible exact ih1 _ _)
   | (with_reducible refine LeO.ite ?_ ?_)
  ·intro y0 y1
   unfold impl_word.j1
   repeat' first
   | (with_reducible exact ih2 _ _ _ _ _)
   | (with_reducible exact LeO.refl _)
   | (with_reducible refine LeO.ite ?_ ?_)
   | (with_reducible refine LeO.bind ?_ (fun _ => ?_))
  ·intro y0 y1 y2 y3 y4
   unfold impl_word.l0
   repeat' first
   | (with_reducible exact ih2 _ _ _ _ _)
   | (with_reducible exact LeO.refl _)
   | (with_reducible refine LeO.ite ?_ ?_)
theorem impl_word.mono : ∀ a0 a1 k, LeO (impl_word.f k a0 a1) (impl_word.f (k + 1) a0 a1) := by
 intro a0 a1 k
 obtain ⟨ih0, ih1, ih2⟩ := impl_word.mono_l k
 unfold impl_word.f
 repeat' first
  | (with_reducible exact ih0 _ _ _)
  | (with_reducible refine LeO.ite ?_ ?_)
theorem impl_word.calls (k : Nat) (a0 : Int) (a1 : Int) (r : List Int) (w : World) (h : impl_word.f k a0 a1 = some r) :
 Calls Tryd.prog 86 #[.int .u64 a0, .int .i64 a1] w fun e w' => ∃ v0_ : Value, e = .returned (v0_) ∧ Kd.R (Kd.int .u8) 5 w' w.heap.size (fun _ => True) v0_ r ∧ Below w.heap.size w w' := by
 have HB := Aside0.mk (Below.refl w.heap.size w)
 have H : (if a1 < 1 then (impl_word.j0 k a0 a1 true) else (impl_word.j0 k a0 a1 (decide (a1 > 8)))) = some r := h
 clear h
 have HC3 := Aside0.mk H
 clear H
 go_enter Tryd.func86, Tryd.ntmps86
 go_upto_region 1 with (fail)
 go_cut [12] (fun v12 wc => ∃ (kq : Nat) (x12_2 : Bool), v12 = .bool x12_2 ∧ Aside0 (impl_word.j0 kq a0 a1 x12_2 = some r) ∧ Aside0 (kq ≤ k) ∧ Aside0 (Below w.heap.size w wc))
 case first =>
  have H := HC3.out
  clear HC3
  by_cases c4 : a1 < 1
  ·rw [if_pos c4] at H
   have c4b0 : decide (a1 < 1) = true := decide_eq_true c4
   clear c4
   (first | skip)
   have H' := Aside0.mk H
   clear H
   go_wp2
   go_meet
   case rel => exact ⟨_, (true), (by first | rfl), H', ⟨by first | omega⟩, ⟨by repeat (first | (with_reducible first | exact HB.out))⟩⟩
  ·rw [if_neg c4] at H
   have c4b0 : decide (a1 < 1) = false := decide_eq_false c4
   clear c4
   (first | skip)
   have H' := Aside0.mk H
   clear H
   go_wp2
   go_meet
   case rel => exact ⟨_, (decide (a1 > 8)), (by first | rfl), H', ⟨by first | omega⟩, ⟨by repeat (first | (with_reducible first | exact HB.out))⟩⟩
 case rest =>
  clear HC3
  try clear p2
  try clear c4
  try clear c4b0
  obtain ⟨kq, x12_2, rfl, HA, HJ2, HB⟩ := hcut
  cases kq with
  | zero => exact absurd HA.out (by simp [impl_word.j0])
  | succ kj2 =>
   have H := HA.out
   clear HA
   simp only [impl_word.j0] at H
   have HC5 := Aside0.mk H
   clear H
   go_upto_if 12 with (fail)
   go_cut [1] (fun v1 wc => ∃ (kq : Nat) (x1_4 : Int), v1 = .int .i64 x1_4 ∧ Aside0 (impl_word.j1 kq a0 x1_4 = some r) ∧ Aside0 (kq ≤ kj2) ∧ Aside0 (Below w.heap.size w wc))
   case first =>
    have H := HC5.out
    clear HC5
    by_cases c6 : x12_2 = true
    ·subst c6
     have H1 : (impl_word.j1 kj2 a0 8) = some r := by rw [if_pos rfl] at H; exact H
     clear H
     have H := H1
     clear H1
     have H' := Aside0.mk H
     clear H
     go_wp2
     go_meet
     case rel => exact ⟨_, (8), (by first | rfl), H', ⟨by have := HJ2.out; first | omega⟩, ⟨by repeat (first | (with_reducible first | exact HB.out))⟩⟩
    ·replace c6 := Bool.eq_false_iff.mpr c6
     subst c6
     have H1 : (impl_word.j1 kj2 a0 a1) = some r := by rw [if_neg (show ¬ (false = true) by decide)] at H; exact H
     clear H
     have H := H1
     clear H1
     have H' := Aside0.mk H
     clear H
     go_wp2
     go_meet
     case rel => exact ⟨_, (a1), (by first | rfl), H', ⟨by have := HJ2.out; first | omega⟩, ⟨by repeat (first | (with_reducible first | exact HB.out))⟩⟩
   case rest =>
    clear HC5
    try clear p2
    try clear c4
    try clear c4b0
    try clear c6
    try clear p2
    obtain ⟨kq, x1_4, rfl, HA, HJ4, HB⟩ := hcut
    cases kq with
    | zero => exact absurd HA.out (by simp [impl_word.j1])
    | succ kj4 =>
     have H := HA.out
     clear HA
     simp only [impl_word.j1] at H
     by_cases c7 : 0 ≤ x1_4
     ·rw [if_pos c7] at H
      have c7b0 := eq_true c7
      have c7b1 : decide (0 ≤ x1_4) = true := decide_eq_true c7
      clear c7
      by_cases c8 : (x1_4 : Int).toNat ≤ 281474976710656
      ·rw [if_pos c8] at H
       have c8b0 := eq_true c8
       have c8b1 : decide ((x1_4 : Int).toNat ≤ 281474976710656) = true := decide_eq_true c8
       clear c8
       obtain ⟨y111, hy111⟩ : ∃ y_ : List Int, y_ = (List.replicate (x1_4 : Int).toNat 0) := ⟨_, rfl⟩
       replace H : (impl_word.l0 kj4 a0 x1_4 y111 (y111.length : Int) 0) = some r := by first | (have H2_ := (Option.bind_some _ _).symm.trans H; rw [hy111]; with_reducible exact H2_)
       have Ny111 := Aside0.mk hy111
       clear hy111
       have H' := Aside0.mk H
       clear H
       go_wp2_with (first | ((with_reducible refine gate_dst (N := 14) rfl ?_); refine Kd.R_make (Kd.int .u8) _ 5 rfl (N := 14) rfl 27 _ _ rfl x1_4 rfl rfl Tryd.underlying27 (.int .u8 0) 1 info5 rfl (by decide) (by omega) 0 (ok := fun _ => True) (okp := fun _ => True) rfl (fun _ hk => hk) trivial (of_decide_eq_true (by first | (with_reducible assumption))) (Nat.le_trans (Nat.mul_le_mul_right _ (of_decide_eq_true (by first | (with_reducible assumption)) : x1_4.toNat ≤ 281474976710656)) (by omega)) (Below.refl _ _) (Nat.le_refl _) ?_; intro v112 w9 ho10 hb hg_ hnew_; clear hg_ hnew_; (first | rw [← Ny111.out] at ho10); have n0_ := Aside0.mk (Kd.R_lower ho10 (below_size (by repeat (first | (with_reducible first | exact HB.out))))); have n1_ := Aside0.mk (below_step (by repeat (first | (with_reducible first | exact HB.out))) hb); clear HB; have HO113 := n0_; have HB := n1_; clear n0_ n1_; clear hb ho10; obtain ⟨Ao11, co11, eo11⟩ := Kd.R_slice HO113.out; subst eo11))
       try simp only [Act.put, List.setIfInBounds_toArray, List.set_cons_zero, List.set_cons_succ]
       go_loopg [17] kj4 (fun kq v17 w' => ∃ (x5_3 : List Int) (x17_3 : Int), v17 = .int .i64 x17_3 ∧ Aside0 (impl_word.l0 kq a0 x1_4 x5_3 (y111.length : Int) x17_3 = some r) ∧ Aside0 (kq ≤ kj4) ∧ Aside0 (Kd.R (Kd.int .u8) 5 w' w.heap.size (fun _ => True) (.slice Ao11 y111.length co11) x5_3) ∧ Aside0 (Below w.heap.size w w'))
       case atStart => exact ⟨(y111), (0), (by first | rfl), H', ⟨Nat.le_refl _⟩, ⟨by exact HO113.out⟩, ⟨by repeat (first | (with_reducible first | exact HB.out))⟩⟩
       case round =>
        clear H'
        try clear p2
        try clear c4
        try clear c4b0
        try clear c6
        try clear c7
        try clear c7b0
        try clear c7b1
        try clear c8
        try clear c8b0
        try clear c8b1
        try clear p2
        obtain ⟨x5_3, x17_3, rfl, HA, HK3, HO_5, HB⟩ := hrel
        have hl5_3 := (Kd.R_reads' HO_5.out).1
        rw [hl5_3] at HO_5
        (try simp only [hl5_3])
        cases gk with
        | zero => exact absurd HA.out (by simp [impl_word.l0])
        | succ k3 =>
         have H := HA.out
         clear HA
         simp only [impl_word.l0] at H
         by_cases c12 : x17_3 < (y111.length : Int)
         ·rw [if_pos c12] at H
          have c12b0 : decide (x17_3 < (y111.length : Int)) = true := decide_eq_true c12
          have c12b0h := c12b0
          (try rw [hl5_3] at c12b0h)
          clear c12
          obtain ⟨ji13, hji13⟩ : ∃ j_ : Int, (wrap64 (8 * x17_3)) = j_ := ⟨_, rfl⟩
          replace H : (if 0 ≤ (ji13) then (if 0 ≤ (wrap64 ((wrap64 (x1_4 - 1)) - x17_3)) then (if (wrap64 ((wrap64 (x1_4 - 1)) - x17_3)) < (x5_3.length : Int) then (impl_word.l0 k3 a0 x1_4 (x5_3.set ((wrap64 ((wrap64 (x1_4 - 1)) - x17_3)) : Int).toNat ((shr .u64 a0 (ji13)) % 256)) (y111.length : Int) (wrap64 (x17_3 + 1))) else (none)) else (none)) else (none)) = some r := by first | (rw [hji13] at H; exact H)
          have hji13w : (IntKind.i64.wrap (8 * x17_3)) = ji13 := (i64_w _).trans hji13
          by_cases c14 : 0 ≤ (ji13)
          ·rw [if_pos c14] at H
           have c14b0 := eq_true c14
           have c14b1 : decide (0 ≤ (ji13)) = true := decide_eq_true c14
           clear c14
           obtain ⟨ji15, hji15⟩ : ∃ j_ : Int, (shr .u64 a0 (ji13)) = j_ := ⟨_, rfl⟩
           replace H : (if 0 ≤ (wrap64 ((wrap64 (x1_4 - 1)) - x17_3)) then (if (wrap64 ((wrap64 (x1_4 - 1)) - x17_3)) < (x5_3.length : Int) then (impl_word.l0 k3 a0 x1_4 (x5_3.set ((wrap64 ((wrap64 (x1_4 - 1)) - x17_3)) : Int).toNat ((ji15) % 256)) (y111.length : Int) (wrap64 (x17_3 + 1))) else (none)) else (none)) = some r := by first | (rw [hji15] at H; exact H)
           have hji15_ : (a0 / 2 ^ min (ji13).toNat 64) = ji15 := hji15
           have hji15z : (ji13) ≤ 64 → (a0 / 2 ^ (ji13).toNat) = ji15 := shr_small hji15
           obtain ⟨ji16, hji16⟩ : ∃ j_ : Int, (wrap64 ((wrap64 (x1_4 - 1)) - x17_3)) = j_ := ⟨_, rfl⟩
           replace H : (if 0 ≤ (ji16) then (if (ji16) < (x5_3.length : Int) then (impl_word.l0 k3 a0 x1_4 (x5_3.set ((ji16) : Int).toNat ((ji15) % 256)) (y111.length : Int) (wrap64 (x17_3 + 1))) else (none)) else (none)) = some r := by first | (rw [hji16] at H; exact H)
           have hji16w : (IntKind.i64.wrap ((wrap64 (x1_4 - 1)) - x17_3)) = ji16 := (i64_w _).trans hji16
           by_cases c17 : 0 ≤ (ji16)
           ·rw [if_pos c17] at H
            have c17b0 : decide (0 ≤ (ji16)) = true := decide_eq_true c17
            clear c17
            by_cases c18 : (ji16) < (x5_3.length : Int)
            ·rw [if_pos c18] at H
             have c18b0 : decide ((ji16) < (x5_3.length : Int)) = true := decide_eq_true c18
             clear c18
             obtain ⟨y114, hy114⟩ : ∃ y_ : List Int, y_ = (x5_3.set ((ji16) : Int).toNat ((ji15) % 256)) := ⟨_, rfl⟩
             replace H : (impl_word.l0 k3 a0 x1_4 y114 (y111.length : Int) (wrap64 (x17_3 + 1))) = some r := by first | (rw [hy114]; with_reducible exact H)
             have Ny114 := Aside0.mk hy114
             clear hy114
             have H' := Aside0.mk H
             clear H
             have p19 : 0 ≤ ((ji16) : Int) := of_decide_eq_true (by first | (with_reducible assumption))
             have q19 : ((ji16) : Int) < ((x5_3.length : Int) : Int) := of_decide_eq_true (by first | (with_reducible assumption))
             obtain ⟨go19, co19, eo19, gb19, gl19, cl19, HG19⟩ := Kd.R_form HO_5.out (by omega)
             (first | cases eo19)
             have GB19 := Aside0.mk gb19
             have GG19 := Aside0.mk HG19
             clear gb19 gl19 HG19
             obtain ⟨hx19_0, hf19_0⟩ := Kd.R_celln 0 HO_5.out ((ji16) : Int) p19 q19
             replace p19 := eq_true p19
             replace q19 := eq_true q19
             have HP20 := Kd.R_putg HO_5.out ((ji16) : Int) ((ji15) % 256)
             go_wp2_with (first | ((with_reducible refine gate_store (t := 5) (p := 30) rfl ?_); refine store_event (t := 5) (p := 30) (v := ?vo_w21) (w1 := (wr.setCell ⟨go19, ((ji16) : Int).toNat, none⟩ (.int .u8 ((ji15) % 256)))) ?hg ?ho ?hn ?hr ?_; (case ho => rfl); (case hg => rfl); (case hn => rfl); (case hr => first | (go_simp; done)); intro w21 hw; have hg : wr.grownBy w21 (some go19) := (by rw [hw]; exact HP20.2); have hp_ : Kd.R (Kd.int .u8) 5 w21 w.heap.size (fun _ => True) (.slice (some ⟨go19, 0, none⟩) x5_3.length co11) y114 := (by rw [hw, Ny114.out]; exact HP20.1); clear HP20; have n0_ := Aside0.mk (hp_); have n1_ := Aside0.mk ((by rw [hw]; exact below_set (HB.out) GB19.out : Below w.heap.size w w21)); clear HO_5; clear HB; have HO_5 := n0_; have HB := n1_; clear n0_ n1_; clear hg hw hp_))
             (try simp only [← hl5_3])
             go_roundg k3
             case measure => have := HJ2.out; have := HJ4.out; have := HK3.out; omega
             case rel => exact ⟨(y114), (wrap64 (x17_3 + 1)), (by first | rfl), H', ⟨by have := HJ2.out; have := HJ4.out; have := HK3.out; omega⟩, ⟨by (try simp only [hl5_3]); exact HO_5.out⟩, ⟨by repeat (first | (with_reducible first | exact HB.out))⟩⟩
            ·rw [if_neg c18] at H
             exact absurd H (by simp)
           ·rw [if_neg c17] at H
            exact absurd H (by simp)
          ·rw [if_neg c14] at H
           exact absurd H (by simp)
         ·rw [if_neg c12] at H
          have c12b0 : decide (x17_3 < (y111.length : Int)) = false := decide_eq_false c12
          have c12b0h := c12b0
          (try rw [hl5_3] at c12b0h)
          clear c12
          obtain rfl := Option.some.inj H
          go_wp2
          go_ret
          exact ⟨_, by first | rfl, by exact HO_5.out, by repeat (first | (with_reducible first | exact HB.out))⟩
      ·rw [if_neg c8] at H
       exact absurd H (by simp)
     ·rw [if_neg c7] at H
      exact absurd H (by simp)
def impl_mixed.l0 : Nat → Int → List Int → Int → Int → Option (Int)
 | 0, _, _, _, _ => none
 | k + 1, x0, x7, x8, x9 => if x9 < x8 then (if 0 ≤ x9 then (if x9 < (x7.length : Int) then (impl_mixed.l0 k (IntKind.u64.wrap ((Go.bits .xor .u64 x0 (IntKind.u64.wrap (rd x7 x9))) * 1099511628211)) x7 x8 (wrap64 (x9 + 1))) else (none)) else (none)) else (some x0)
def impl_mixed.f (k : Nat) (a0 : Int) (l1 : List Int) : Option (Int) := impl_mixed.l0 k a0 l1 (l1.length : Int) 0
theorem impl_mixed.mono_l : ∀ k, (∀ y0 y1 y2 y3, LeO (impl_mixed.l0 k y0 y1 y2 y3) (impl_mixed.l0 (k + 1) y0 y1 y2 y3))
 | 0 => fun _ _ _ _ r h => by simp [impl_mixed.l0] at h
 | k + 1 => by
  have ih0 := impl_mixed.mono_l k
  ·intro y0 y1 y2 y3
   unfold impl_mixed.l0
   repeat' first
   | (with_reducible exact ih0 _ _ _ _)
   | (with_reducible exact LeO.refl _)
   | (with_reducible refine LeO.ite ?_ ?_)
theorem impl_mixed.mono : ∀ a0 a1 k, LeO (impl_mixed.f k a0 a1) (impl_mixed.f (k + 1) a0 a1) := by
 intro a0 a1 k
 have ih0 := impl_mixed.mono_l k
 unfold impl_mixed.f
 repeat' first
  | (with_reducible exact ih0 _ _ _ _)
theorem impl_mixed.calls (k : Nat) (a0 : Int) (A1 : Option Addr) (c1 : Nat) (l1 : List Int) (r : Int) (w : World) (hr1 : Kd.C (Kd.int .u8) w A1 l1.length l1) (hc1 : l1.length ≤ c1) (h : impl_mixed.f k a0 l1 = some r) :
 Calls Tryd.prog 87 #[.int .u64 a0, .slice A1 l1.length c1] w fun e w' => e = .returned (.int .u64 r) ∧ Drawn0 w w' := by
 have HR1 := Aside0.mk hr1
 have HC1 := Aside0.mk hc1
 clear hr1 hc1
 have H : (impl_mixed.l0 k a0 l1 (l1.length : Int) 0) = some r := h
 clear h
 have H' := Aside0.mk H
 clear H
 go_enter Tryd.func87, Tryd.ntmps87
 go_wp2
 try simp only [Act.put, List.setIfInBounds_toArray, List.set_cons_zero, List.set_cons_succ]
 go_loopg [0, 9] k (fun kq v0 v9 w' => ∃ (x0_1 : Int) (x9_1 : Int), v0 = .int .u64 x0_1 ∧ v9 = .int .i64 x9_1 ∧ Aside0 (impl_mixed.l0 kq x0_1 l1 (l1.length : Int) x9_1 = some r) ∧ Aside0 (kq ≤ k) ∧ Drawn0 w w')
 case atStart => exact ⟨(a0), (0), (by first | rfl), (by first | rfl), H', ⟨Nat.le_refl _⟩, by repeat (first | exact Drawn0.refl _)⟩
 case round =>
  clear H'
  try clear c1
  try clear p2
  obtain ⟨x0_1, x9_1, rfl, rfl, HA, HK1, ⟨m1, rfl⟩⟩ := hrel
  cases gk with
  | zero => exact absurd HA.out (by simp [impl_mixed.l0])
  | succ k1 =>
   have H := HA.out
   clear HA
   simp only [impl_mixed.l0] at H
   by_cases c3 : x9_1 < (l1.length : Int)
   ·rw [if_pos c3] at H
    have c3b0 : decide (x9_1 < (l1.length : Int)) = true := decide_eq_true c3
    clear c3
    by_cases c4 : 0 ≤ x9_1
    ·rw [if_pos c4] at H
     have c4b0 : decide (0 ≤ x9_1) = true := decide_eq_true c4
     clear c4
     by_cases c5 : x9_1 < (l1.length : Int)
     ·rw [if_pos c5] at H
      have c5b0 : decide (x9_1 < (l1.length : Int)) = true := decide_eq_true c5
      clear c5
      have H' := Aside0.mk H
      clear H
      have p115 : 0 ≤ (x9_1 : Int) := of_decide_eq_true (by first | (with_reducible assumption))
      have q115 : x9_1 < (l1.length : Int) := of_decide_eq_true (by first | (with_reducible assumption))
      obtain ⟨ad115, e115, hx115_0⟩ := Kd.at_int HR1.out x9_1 p115 q115
      cases e115
      replace p115 := eq_true p115
      replace q115 := eq_true q115
      go_wp2
      go_roundg k1
      case measure => have := HK1.out; omega
      case rel => exact ⟨(IntKind.u64.wrap ((Go.bits .xor .u64 x0_1 (IntKind.u64.wrap (rd l1 x9_1))) * 1099511628211)), (wrap64 (x9_1 + 1)), (by first | rfl), (by first | rfl), H', ⟨by have := HK1.out; omega⟩, by repeat (first | exact Drawn0.refl _ | apply Drawn0.step)⟩
     ·rw [if_neg c5] at H
      exact absurd H (by simp)
    ·rw [if_neg c4] at H
     exact absurd H (by simp)
   ·rw [if_neg c3] at H
    have c3b0 : decide (x9_1 < (l1.length : Int)) = false := decide_eq_false c3
    clear c3
    obtain rfl := Option.some.inj H
    go_wp2
    go_ret
    exact ⟨by first | rfl, by repeat (first | exact Drawn0.refl _ | apply Drawn0.step)⟩
def impl_toy_HashChildren.f (k : Nat) (a0_0 : Int) (a0_1 : Int) (a0_2 : Int) (a0_3 : Int) (a0_4 : Int) (a0_5 : Int) (l1 : List Int) (l2 : List Int) : Option (List Int) := if a0_0 = 1 then ((impl_mixed.f k a0_5 l1).bind fun t117 => ((impl_mixed.f k t117 (([255] : List Int))).bind fun t121 => ((impl_mixed.f k t121 l2).bind fun t122 => ((impl_word.f k t122 a0_2).bind fun t123 => (some t123))))) else ((some (([1] : List Int) : List Int)).bind fun y126 => ((impl_word.f k (IntKind.u64.wrap ((l1.length : Int))) 8).bind fun t129 => (if y126.length + t129.length < 140737488355328 then ((some (y126 ++ t129 : List Int)).bind fun y132 => (if y132.length + l1.length < 140737488355328 then ((some (y132 ++ l1 : List Int)).bind fun y135 => (if y135.length + l2.length < 140737488355328 then (some (y135 ++ l2)) else (none))) else (none))) else (none))))
theorem impl_toy_HashChildren.mono : ∀ a0 a1 a2 a3 a4 a5 a6 a7 k, LeO (impl_toy_HashChildren.f k a0 a1 a2 a3 a4 a5 a6 a7) (impl_toy_HashChildren.f (k + 1) a0 a1 a2 a3 a4 a5 a6 a7) := by
 intro a0 a1 a2 a3 a4 a5 a6 a7 k
 unfold impl_toy_HashChildren.f
 repeat' first
  | (with_reducible exact impl_mixed.mono _ _ _)
  | (with_reducible exact impl_word.mono _ _ _)
  | (with_reducible exact LeO.refl _)
  | (with_reducible refine LeO.ite ?_ ?_)
  | (with_reducible refine LeO.bind ?_ (fun _ => ?_))
def impl_toy_HashChildren.T2 : Bool × List (List Nat × List Nat) := (true, [([], []), ([0], [0]), ([1], [1]), ([], []), ([2, 3], [2, 3]), ([], []), ([4, 5, 4], [4, 5]), ([], []), ([6, 7, 6], [6, 7]), ([], []), ([9], [9]), ([10], [10]), ([8, 11, 8], [8, 11]), ([12, 12, 0, 1, 2, 3, 4, 5, 6, 7, 8, 9, 10, 11, 12], [12])])
def impl_toy_HashChildren.B2 : List Nat := [0, 1, 3, 0, 15, 0, 63, 0, 255, 0, 512, 1536, 4095, 8191]
theorem impl_toy_HashChildren.tab2 : rtab .any (opsOf Tryd.f50 2) = impl_toy_HashChildren.T2 := by kernel_rfl
theorem impl_toy_HashChildren.bits2 : waitsOk impl_toy_HashChildren.T2.2 impl_toy_HashChildren.B2 = true := by kernel_rfl
theorem impl_toy_HashChildren.calls (k : Nat) (a0_0 : Int) (a0_1 : Int) (a0_2 : Int) (a0_3 : Int) (a0_4 : Int) (a0_5 : Int) (A1 : Option Addr) (c1 : Nat) (l1 : List Int) (A2 : Option Addr) (c2 : Nat) (l2 : List Int) (r : List Int) (w : World) (hr1 : Kd.C (Kd.int .u8) w A1 l1.length l1) (hc1 : l1.length ≤ c1) (hr2 : Kd.C (Kd.int .u8) w A2 l2.length l2) (hc2 : l2.length ≤ c2) (h : impl_toy_HashChildren.f k a0_0 a0_1 a0_2 a0_3 a0_4 a0_5 l1 l2 = some r) :
 Calls Tryd.prog 50 #[.agg #[.int .i64 a0_0, .int .i64 a0_1, .int .i64 a0_2, .int .u64 a0_3, .int .u64 a0_4, .int .u64 a0_5], .slice A1 l1.length c1, .slice A2 l2.length c2] w fun e w' => ∃ v0_ : Value, e = .returned (v0_) ∧ Kd.R (Kd.int .u8) 5 w' w.heap.size (fun _ => True) v0_ r ∧ Below w.heap.size w w' := by
 have hu82 := Tryd.underlying82
 have HR1 := Aside0.mk hr1
 have HC1 := Aside0.mk hc1
 clear hr1 hc1
 have HR2 := Aside0.mk hr2
 have HC2 := Aside0.mk hc2
 clear hr2 hc2
 have HB := Aside0.mk (Below.refl w.heap.size w)
 have H : (if a0_0 = 1 then ((impl_mixed.f k a0_5 l1).bind fun t117 => ((impl_mixed.f k t117 (([255] : List Int))).bind fun t121 => ((impl_mixed.f k t121 l2).bind fun t122 => ((impl_word.f k t122 a0_2).bind fun t123 => (some t123))))) else ((some (([1] : List Int) : List Int)).bind fun y126 => ((impl_word.f k (IntKind.u64.wrap ((l1.length : Int))) 8).bind fun t129 => (if y126.length + t129.length < 140737488355328 then ((some (y126 ++ t129 : List Int)).bind fun y132 => (if y132.length + l1.length < 140737488355328 then ((some (y132 ++ l1 : List Int)).bind fun y135 => (if y135.length + l2.length < 140737488355328 then (some (y135 ++ l2)) else (none))) else (none))) else (none))))) = some r := h
 clear h
 by_cases c4 : a0_0 = 1
 ·rw [if_pos c4] at H
  have c4b0 : (a0_0 == 1) = true := beq_iff_eq.mpr c4
  have c4b1 : (a0_0 != 1) = false := bne_eq_false_iff_eq.mpr c4
  clear c4
  replace H := Option.bind_eq_some_iff.mp H
  obtain ⟨t117, A50, H⟩ := H
  replace H : ((impl_mixed.f k t117 (([255] : List Int))).bind fun t121 => ((impl_mixed.f k t121 l2).bind fun t122 => ((impl_word.f k t122 a0_2).bind fun t123 => (some t123)))) = some r := H
  have A5 := Aside0.mk A50
  clear A50
  obtain ⟨y118, hy118⟩ : ∃ y_ : List Int, y_ = (([255] : List Int)) := ⟨_, rfl⟩
  replace H : ((impl_mixed.f k t117 y118).bind fun t121 => ((impl_mixed.f k t121 l2).bind fun t122 => ((impl_word.f k t122 a0_2).bind fun t123 => (some t123)))) = some r := by first | (rw [hy118]; with_reducible exact H)
  have Ny118 := Aside0.mk hy118
  clear hy118
  replace H := Option.bind_eq_some_iff.mp H
  obtain ⟨t121, A60, H⟩ := H
  replace H : ((impl_mixed.f k t121 l2).bind fun t122 => ((impl_word.f k t122 a0_2).bind fun t123 => (some t123))) = some r := H
  have A6 := Aside0.mk A60
  clear A60
  replace H := Option.bind_eq_some_iff.mp H
  obtain ⟨t122, A70, H⟩ := H
  replace H : ((impl_word.f k t122 a0_2).bind fun t123 => (some t123)) = some r := H
  have A7 := Aside0.mk A70
  clear A70
  replace H := Option.bind_eq_some_iff.mp H
  obtain ⟨t123, A80, H⟩ := H
  replace H : (some t123) = some r := H
  have A8 := Aside0.mk A80
  clear A80
  obtain rfl := Option.some.inj H
  go_enter Tryd.func50, Tryd.ntmps50
  try go_wp2_with (first | ((with_reducible refine gate_dst (N := 3) rfl ?_); refine box_event ?hg (N := 3) ?hd (cs := #[.int .i64 a0_0, .int .i64 a0_1, .int .i64 a0_2, .int .u64 a0_3, .int .u64 a0_4, .int .u64 a0_5]) (t := 82) ?hr ?_; (case hd => rfl); (case hg => rfl); (case hr => first | (go_simp; done)); intro gb116 hg w9 hbox hb; have n0_ := Aside0.mk (below_step (by repeat (first | (with_reducible first | exact HB.out))) hb); have n1_ := Aside0.mk (hbox); have n2_ := Aside0.mk ((by rw [hg]; exact (below_size (by repeat (first | (with_reducible first | exact HB.out)))) : w.heap.size ≤ gb116)); have n3_ := Aside0.mk ((by rw [hg]; exact (below_size (by repeat (first | (with_reducible first | exact HB.out)))) : w.heap.size ≤ gb116)); clear HB; have HB := n0_; have BK116 := n1_; have GW116 := n2_; have GE116 := n3_; clear n0_ n1_ n2_ n3_; clear hb hbox hg; have hcz10_0 : w9.cell? ⟨gb116, 0, none⟩ = some (.int .i64 a0_0) := (blk_cell BK116.out 0).trans rfl; have hcz10_1 : w9.cell? ⟨gb116, 1, none⟩ = some (.int .i64 a0_1) := (blk_cell BK116.out 1).trans rfl; have hcz10_2 : w9.cell? ⟨gb116, 2, none⟩ = some (.int .i64 a0_2) := (blk_cell BK116.out 2).trans rfl; have hcz10_3 : w9.cell? ⟨gb116, 3, none⟩ = some (.int .u64 a0_3) := (blk_cell BK116.out 3).trans rfl; have hcz10_4 : w9.cell? ⟨gb116, 4, none⟩ = some (.int .u64 a0_4) := (blk_cell BK116.out 4).trans rfl; have hcz10_5 : w9.cell? ⟨gb116, 5, none⟩ = some (.int .u64 a0_5) := (blk_cell BK116.out 5).trans rfl; have hfz10_0 := blk_frozen BK116.out 0; have hfz10_1 := blk_frozen BK116.out 1; have hfz10_2 := blk_frozen BK116.out 2; have hfz10_3 := blk_frozen BK116.out 3; have hfz10_4 := blk_frozen BK116.out 4; have hfz10_5 := blk_frozen BK116.out 5))
  (try (rw [drewN_self w9]; generalize hq_ : World.drewN w9 _ = w9; have n0_ : Aside0 (w9.heap[gb116]? = some (.cells #[.int .i64 a0_0, .int .i64 a0_1, .int .i64 a0_2, .int .u64 a0_3, .int .u64 a0_4, .int .u64 a0_5] 82 (0, 0))) := ⟨by rw [← hq_]; exact (by exact BK116.out)⟩; have n1_ : Aside0 (Below w.heap.size w w9) := ⟨by rw [← hq_]; exact (by repeat (first | exact HB.out))⟩; clear BK116 HB hq_; have BK116 := n0_; have HB := n1_; clear n0_ n1_))
  have n0_ := Aside0.mk (blk_drew BK116.out)
  have n1_ := Aside0.mk (below_drew1 HB.out)
  clear BK116
  clear HB
  have BK116 := n0_
  have HB := n1_
  clear n0_ n1_
  refine start_ (n := 14) (S := fun w' => w'.cell? ⟨gb116, 0, none⟩ = some (.int .i64 a0_0) ∧ w'.cell? ⟨gb116, 1, none⟩ = some (.int .i64 a0_1) ∧ w'.cell? ⟨gb116, 2, none⟩ = some (.int .i64 a0_2) ∧ w'.cell? ⟨gb116, 3, none⟩ = some (.int .u64 a0_3) ∧ w'.cell? ⟨gb116, 4, none⟩ = some (.int .u64 a0_4) ∧ w'.cell? ⟨gb116, 5, none⟩ = some (.int .u64 a0_5)) (ds := []) #[false, false, false, false, false, false, false, false, false, false, false, false, false, false] (by kernel_rfl) rfl rfl ⟨(blk_cell BK116.out 0).trans rfl, (blk_cell BK116.out 1).trans rfl, (blk_cell BK116.out 2).trans rfl, (blk_cell BK116.out 3).trans rfl, (blk_cell BK116.out 4).trans rfl, (blk_cell BK116.out 5).trans rfl⟩ (fun hHeld => ?_); refine with_tabW impl_toy_HashChildren.tab2 impl_toy_HashChildren.bits2 (fun HT_ HW_ => ?_)
  generalize w9.drew = w11 at BK116 HB hHeld ⊢
  refine pure_ (i := 0) (N := some 12) (v := ?_) (a' := ?_) #[true, false, false, false, false, false, false, false, false, false, false, false, false, false] rfl rfl (any_of HT_.out (by kernel_rfl)) (fun _ _ _ h => h) (Or.inl ⟨by rfl, ?_⟩) ?_ ?_
  rotate_left
  ·intro w'
   go_simp
   with_reducible rfl
  rotate_left
  ·simp only [Act.put, List.setIfInBounds_toArray, List.set_cons_zero, List.set_cons_succ, i64_w, i32_w]
   rfl
  refine pure_ (i := 1) (N := some 13) (v := ?_) (a' := ?_) #[true, true, false, false, false, false, false, false, false, false, false, false, false, false] rfl rfl (any_of HT_.out (by kernel_rfl)) (fun _ _ _ h => h) (Or.inl ⟨by rfl, ?_⟩) ?_ ?_
  rotate_left
  ·intro w'
   go_simp
   with_reducible rfl
  rotate_left
  ·simp only [Act.put, List.setIfInBounds_toArray, List.set_cons_zero, List.set_cons_succ, i64_w, i32_w]
   rfl
  refine pure_ (i := 3) (N := some 15) (v := ?_) (a' := ?_) #[true, true, false, true, false, false, false, false, false, false, false, false, false, false] rfl rfl (any_of HT_.out (by kernel_rfl)) (fun _ _ _ h => h) (Or.inl ⟨by rfl, ?_⟩) ?_ ?_
  rotate_left
  ·intro w'
   go_simp
   with_reducible rfl
  rotate_left
  ·simp only [Act.put, List.setIfInBounds_toArray, List.set_cons_zero, List.set_cons_succ, i64_w, i32_w]
   rfl
  refine pure_ (i := 7) (N := some 19) (v := ?_) (a' := ?_) #[true, true, false, true, false, false, false, true, false, false, false, false, false, false] rfl rfl (any_of HT_.out (by kernel_rfl)) (fun _ _ _ h => h) (Or.inl ⟨by rfl, ?_⟩) ?_ ?_
  rotate_left
  ·intro w'
   go_simp
   with_reducible rfl
  rotate_left
  ·simp only [Act.put, List.setIfInBounds_toArray, List.set_cons_zero, List.set_cons_succ, i64_w, i32_w]
   rfl
  refine pure_ (i := 9) (N := some 21) (v := ?_) (a' := ?_) #[true, true, false, true, false, false, false, true, false, true, false, false, false, false] rfl rfl (any_of HT_.out (by kernel_rfl)) (fun _ _ _ h => h) (Or.inl ⟨by rfl, ?_⟩) ?_ ?_
  rotate_left
  ·intro w'
   go_simp
   with_reducible rfl
  rotate_left
  ·simp only [Act.put, List.setIfInBounds_toArray, List.set_cons_zero, List.set_cons_succ, i64_w, i32_w]
   rfl
  refine pure_ (i := 10) (N := some 22) (v := ?_) (a' := ?_) #[true, true, false, true, false, false, false, true, false, true, true, false, false, false] rfl rfl (any_of HT_.out (by kernel_rfl)) (fun _ _ _ h => h) (Or.inl ⟨by rfl, ?_⟩) ?_ ?_
  rotate_left
  ·intro w'
   go_simp
   with_reducible rfl
  rotate_left
  ·simp only [Act.put, List.setIfInBounds_toArray, List.set_cons_zero, List.set_cons_succ, i64_w, i32_w]
   rfl
  refine take_ (i := 2) (N := some 14) (v := ?_) (a' := ?_) #[true, true, true, true, false, false, false, true, false, true, true, false, false, false] rfl rfl (take_ofW HT_.out HW_.out (by kernel_rfl)) (fun _ _ _ h => h) (Or.inl ⟨by rfl, ?_⟩) hHeld ?_ ?_
  rotate_left
  ·rintro w' ⟨s0, s1, s2, s3, s4, s5⟩
   go_simp
   with_reducible rfl
  rotate_left
  ·simp only [Act.put, List.setIfInBounds_toArray, List.set_cons_zero, List.set_cons_succ, i64_w, i32_w]
   rfl
  refine take_ (i := 11) (N := some 23) (v := ?_) (a' := ?_) #[true, true, true, true, false, false, false, true, false, true, true, true, false, false] rfl rfl (take_ofW HT_.out HW_.out (by kernel_rfl)) (fun _ _ _ h => h) (Or.inl ⟨by rfl, ?_⟩) hHeld ?_ ?_
  rotate_left
  ·rintro w' ⟨s0, s1, s2, s3, s4, s5⟩
   go_simp
   with_reducible rfl
  rotate_left
  ·simp only [Act.put, List.setIfInBounds_toArray, List.set_cons_zero, List.set_cons_succ, i64_w, i32_w]
   rfl
  refine join_ (σ := Value) 4 #[true, true, true, true, true, true, false, true, false, true, true, true, false, false] (fun s_ => [(16, .int .u64 t117), (17, s_)]) (fun s_ w' => (w'.cell? ⟨gb116, 0, none⟩ = some (.int .i64 a0_0) ∧ w'.cell? ⟨gb116, 1, none⟩ = some (.int .i64 a0_1) ∧ w'.cell? ⟨gb116, 2, none⟩ = some (.int .i64 a0_2) ∧ w'.cell? ⟨gb116, 3, none⟩ = some (.int .u64 a0_3) ∧ w'.cell? ⟨gb116, 4, none⟩ = some (.int .u64 a0_4) ∧ w'.cell? ⟨gb116, 5, none⟩ = some (.int .u64 a0_5)) ∧ (Kd.R (Kd.int .u8) 5 w' w.heap.size (fun _ => True) s_ y118) ∧ (w'.heap[gb116]? = some (.cells #[.int .i64 a0_0, .int .i64 a0_1, .int .i64 a0_2, .int .u64 a0_3, .int .u64 a0_4, .int .u64 a0_5] 82 (0, 0))) ∧ (Below w.heap.size w w')) ?_ ?_
  rotate_left
  ·intro hCont
   refine two_ (i := 4) (j := 5) (Ni := some 16) (Nj := some 17) #[true, true, true, true, true, false, false, true, false, true, true, true, false, false] #[true, true, true, true, false, true, false, true, false, true, true, true, false, false] rfl rfl rfl rfl (two_of HT_.out (by kernel_rfl)) (by decide) (by decide) (fun K hK => ?_) (fun K hK => ?_)
   ·skip
    refine goes_ Tryd.func87 (by kernel_rfl) rfl #[.int .u64 a0_5, .slice A1 l1.length c1] (by rfl) rfl rfl (by (try simp only [List.map_toArray, List.map_cons, List.map_nil]); first | rfl) ?_
    with_reducible refine (impl_mixed.calls k a0_5 _ _ l1 t117 _ ?side1 ?side2 A5.out).mono ?_
    (case side1 => repeat (first | exact (Kd.C_below HR1.out HB.out)))
    (case side2 => exact HC1.out)
    rintro e w' ⟨rfl, ⟨nd, rfl⟩⟩
    refine ⟨_, rfl, ?_⟩
    refine hK.out _ _ ⟨(blk_cell BK116.out 0).trans rfl, (blk_cell BK116.out 1).trans rfl, (blk_cell BK116.out 2).trans rfl, (blk_cell BK116.out 3).trans rfl, (blk_cell BK116.out 4).trans rfl, (blk_cell BK116.out 5).trans rfl⟩ (fun hHeld => ?_)
    clear hK K
    refine norm_ (a' := ?_) ?_ ?_
    rotate_left
    ·show Act.put _ (some 16) _ = _
     simp only [Act.put, List.setIfInBounds_toArray, List.set_cons_zero, List.set_cons_succ, i64_w, i32_w]
     rfl
    refine one_ (i := 5) (N := some 17) #[true, true, true, true, true, true, false, true, false, true, true, true, false, false] rfl rfl (one_of HT_.out (by kernel_rfl)) (by decide) (fun K hK => ?_)
    refine Kd.R_lit_step (Kd.int .u8) _ 5 ?hg (N := 17) ?hd (xs := ([255] : List Int)) (inner := [.int .u8 255]) (ok := fun _ => True) (okp := fun _ => True) ?hr ?hp (fun _ hk => hk) trivial (Below.refl _ _) (Nat.le_refl _) (by simp) ?_; (case hd => rfl); (case hg => rfl); (case hr => first | (go_simp; done)); (case hp => exact (Reps.one (show Kd.M (Kd.int .u8) _ _ _ 255 [.int .u8 255] from rfl) (Reps.none _ _)))
    intro v119 w12 ho13 hb hg_ hnew_
    clear hg_ hnew_
    (first | rw [← Ny118.out] at ho13)
    have n0_ := Aside0.mk (Kd.R_lower ho13 (below_size (by repeat (first | (with_reducible first | exact HB.out | apply pw_below_drewN)))))
    have n1_ := Aside0.mk (blk_below (g := gb116) (o := .cells #[.int .i64 a0_0, .int .i64 a0_1, .int .i64 a0_2, .int .u64 a0_3, .int .u64 a0_4, .int .u64 a0_5] 82 (0, 0)) (by (with_reducible repeat (first | refine blk_drewN ?_ _)); exact BK116.out) hb)
    have n2_ := Aside0.mk (below_step (by repeat (first | (with_reducible first | exact HB.out | apply pw_below_drewN))) hb)
    clear BK116
    clear HB
    have HO120 := n0_
    have BK116 := n1_
    have HB := n2_
    clear n0_ n1_ n2_
    clear hb ho13
    refine hK.out _ _ ⟨(blk_cell BK116.out 0).trans rfl, (blk_cell BK116.out 1).trans rfl, (blk_cell BK116.out 2).trans rfl, (blk_cell BK116.out 3).trans rfl, (blk_cell BK116.out 4).trans rfl, (blk_cell BK116.out 5).trans rfl⟩ (fun hHeld => ?_)
    clear hK K
    refine norm_ (a' := ?_) ?_ ?_
    rotate_left
    ·show Act.put _ (some 17) _ = _
     simp only [Act.put, List.setIfInBounds_toArray, List.set_cons_zero, List.set_cons_succ, i64_w, i32_w]
     rfl
    exact norm_ (by simp only [putAll, Act.put, List.setIfInBounds_toArray, List.set_cons_zero, List.set_cons_succ]) (hCont (v119) _ ⟨hHeld, (by exact HO120.out), (by exact BK116.out), (by repeat (first | (with_reducible first | exact HB.out)))⟩)
   ·skip
    refine Kd.R_lit_step (Kd.int .u8) _ 5 ?hg (N := 17) ?hd (xs := ([255] : List Int)) (inner := [.int .u8 255]) (ok := fun _ => True) (okp := fun _ => True) ?hr ?hp (fun _ hk => hk) trivial (Below.refl _ _) (Nat.le_refl _) (by simp) ?_; (case hd => rfl); (case hg => rfl); (case hr => first | (go_simp; done)); (case hp => exact (Reps.one (show Kd.M (Kd.int .u8) _ _ _ 255 [.int .u8 255] from rfl) (Reps.none _ _)))
    intro v119 w12 ho13 hb hg_ hnew_
    clear hg_ hnew_
    (first | rw [← Ny118.out] at ho13)
    have n0_ := Aside0.mk (Kd.R_lower ho13 (below_size (by repeat (first | (with_reducible first | exact HB.out)))))
    have n1_ := Aside0.mk (blk_below (g := gb116) (o := .cells #[.int .i64 a0_0, .int .i64 a0_1, .int .i64 a0_2, .int .u64 a0_3, .int .u64 a0_4, .int .u64 a0_5] 82 (0, 0)) (by exact BK116.out) hb)
    have n2_ := Aside0.mk (below_step (by repeat (first | (with_reducible first | exact HB.out))) hb)
    clear BK116
    clear HB
    have HO120 := n0_
    have BK116 := n1_
    have HB := n2_
    clear n0_ n1_ n2_
    clear hb ho13
    refine hK.out _ _ ⟨(blk_cell BK116.out 0).trans rfl, (blk_cell BK116.out 1).trans rfl, (blk_cell BK116.out 2).trans rfl, (blk_cell BK116.out 3).trans rfl, (blk_cell BK116.out 4).trans rfl, (blk_cell BK116.out 5).trans rfl⟩ (fun hHeld => ?_)
    clear hK K
    refine norm_ (a' := ?_) ?_ ?_
    rotate_left
    ·show Act.put _ (some 17) _ = _
     simp only [Act.put, List.setIfInBounds_toArray, List.set_cons_zero, List.set_cons_succ, i64_w, i32_w]
     rfl
    refine one_ (i := 4) (N := some 16) #[true, true, true, true, true, true, false, true, false, true, true, true, false, false] rfl rfl (one_of HT_.out (by kernel_rfl)) (by decide) (fun K hK => ?_)
    refine goes_ Tryd.func87 (by kernel_rfl) rfl #[.int .u64 a0_5, .slice A1 l1.length c1] (by rfl) rfl rfl (by (try simp only [List.map_toArray, List.map_cons, List.map_nil]); first | rfl) ?_
    with_reducible refine (impl_mixed.calls k a0_5 _ _ l1 t117 _ ?side1 ?side2 A5.out).mono ?_
    (case side1 => repeat (first | exact (Kd.C_below HR1.out HB.out)))
    (case side2 => exact HC1.out)
    rintro e w' ⟨rfl, ⟨nd, rfl⟩⟩
    refine ⟨_, rfl, ?_⟩
    refine hK.out _ _ ⟨(blk_cell BK116.out 0).trans rfl, (blk_cell BK116.out 1).trans rfl, (blk_cell BK116.out 2).trans rfl, (blk_cell BK116.out 3).trans rfl, (blk_cell BK116.out 4).trans rfl, (blk_cell BK116.out 5).trans rfl⟩ (fun hHeld => ?_)
    clear hK K
    refine norm_ (a' := ?_) ?_ ?_
    rotate_left
    ·show Act.put _ (some 16) _ = _
     simp only [Act.put, List.setIfInBounds_toArray, List.set_cons_zero, List.set_cons_succ, i64_w, i32_w]
     rfl
    exact norm_ (by simp only [putAll, Act.put, List.setIfInBounds_toArray, List.set_cons_zero, List.set_cons_succ]) (hCont (v119) _ ⟨hHeld, (by (with_reducible repeat (first | apply Kd.R_drewN)); exact HO120.out), (by (with_reducible repeat (first | refine blk_drewN ?_ _)); exact BK116.out), (by repeat (first | (with_reducible first | exact HB.out | apply pw_below_drewN)))⟩)
  rintro v119 w14 ⟨hS_, h0_, h1_, h2_⟩
  have n0_ : Aside0 (Kd.R (Kd.int .u8) 5 w14 w.heap.size (fun _ => True) v119 y118) := ⟨h0_⟩
  have n1_ : Aside0 (w14.heap[gb116]? = some (.cells #[.int .i64 a0_0, .int .i64 a0_1, .int .i64 a0_2, .int .u64 a0_3, .int .u64 a0_4, .int .u64 a0_5] 82 (0, 0))) := ⟨h1_⟩
  have n2_ : Aside0 (Below w.heap.size w w14) := ⟨h2_⟩
  clear BK116
  clear HB
  clear h0_ h1_ h2_
  have HO120 := n0_
  have BK116 := n1_
  have HB := n2_
  clear n0_ n1_ n2_
  have hHeld : w14.cell? ⟨gb116, 0, none⟩ = some (.int .i64 a0_0) ∧ w14.cell? ⟨gb116, 1, none⟩ = some (.int .i64 a0_1) ∧ w14.cell? ⟨gb116, 2, none⟩ = some (.int .i64 a0_2) ∧ w14.cell? ⟨gb116, 3, none⟩ = some (.int .u64 a0_3) ∧ w14.cell? ⟨gb116, 4, none⟩ = some (.int .u64 a0_4) ∧ w14.cell? ⟨gb116, 5, none⟩ = some (.int .u64 a0_5) := hS_
  obtain ⟨Ao15, co15, eo15⟩ := Kd.R_slice HO120.out
  (first | subst eo15)
  refine norm_ (a' := ?_) ?_ ?_
  rotate_left
  ·simp only [putAll, Act.put, List.setIfInBounds_toArray, List.set_cons_zero, List.set_cons_succ]
   rfl
  refine one_ (i := 6) (N := some 18) #[true, true, true, true, true, true, true, true, false, true, true, true, false, false] rfl rfl (one_of HT_.out (by kernel_rfl)) (by decide) (fun K hK => ?_)
  refine goes_ Tryd.func87 (by kernel_rfl) rfl #[.int .u64 t117, .slice Ao15 y118.length co15] (by rfl) rfl rfl (by (try simp only [List.map_toArray, List.map_cons, List.map_nil]); first | rfl) ?_
  with_reducible refine (impl_mixed.calls k t117 _ _ y118 t121 _ ?side1 ?side2 A6.out).mono ?_
  (case side1 => repeat (first | exact (Kd.R_reads' HO120.out).2.2))
  (case side2 => exact (Kd.R_reads' HO120.out).2.1)
  rintro e w' ⟨rfl, ⟨nd, rfl⟩⟩
  refine ⟨_, rfl, ?_⟩
  refine hK.out _ _ ⟨(blk_cell BK116.out 0).trans rfl, (blk_cell BK116.out 1).trans rfl, (blk_cell BK116.out 2).trans rfl, (blk_cell BK116.out 3).trans rfl, (blk_cell BK116.out 4).trans rfl, (blk_cell BK116.out 5).trans rfl⟩ (fun hHeld => ?_)
  clear hK K
  refine norm_ (a' := ?_) ?_ ?_
  rotate_left
  ·show Act.put _ (some 18) _ = _
   simp only [Act.put, List.setIfInBounds_toArray, List.set_cons_zero, List.set_cons_succ, i64_w, i32_w]
   rfl
  refine one_ (i := 8) (N := some 20) #[true, true, true, true, true, true, true, true, true, true, true, true, false, false] rfl rfl (one_of HT_.out (by kernel_rfl)) (by decide) (fun K hK => ?_)
  refine goes_ Tryd.func87 (by kernel_rfl) rfl #[.int .u64 t121, .slice A2 l2.length c2] (by rfl) rfl rfl (by (try simp only [List.map_toArray, List.map_cons, List.map_nil]); first | rfl) ?_
  with_reducible refine (impl_mixed.calls k t121 _ _ l2 t122 _ ?side1 ?side2 A7.out).mono ?_
  (case side1 => repeat (first | exact (Kd.C_below HR2.out (by repeat (first | (with_reducible first | exact HB.out | apply pw_below_drewN))))))
  (case side2 => exact HC2.out)
  rintro e w' ⟨rfl, ⟨nd, rfl⟩⟩
  refine ⟨_, rfl, ?_⟩
  refine hK.out _ _ ⟨(blk_cell BK116.out 0).trans rfl, (blk_cell BK116.out 1).trans rfl, (blk_cell BK116.out 2).trans rfl, (blk_cell BK116.out 3).trans rfl, (blk_cell BK116.out 4).trans rfl, (blk_cell BK116.out 5).trans rfl⟩ (fun hHeld => ?_)
  clear hK K
  refine norm_ (a' := ?_) ?_ ?_
  rotate_left
  ·show Act.put _ (some 20) _ = _
   simp only [Act.put, List.setIfInBounds_toArray, List.set_cons_zero, List.set_cons_succ, i64_w, i32_w]
   rfl
  refine one_ (i := 12) (N := some 24) #[true, true, true, true, true, true, true, true, true, true, true, true, true, false] rfl rfl (one_of HT_.out (by kernel_rfl)) (by decide) (fun K hK => ?_)
  refine goes_ Tryd.func86 (by kernel_rfl) rfl #[.int .u64 t122, .int .i64 a0_2] (by rfl) rfl rfl (by (try simp only [List.map_toArray, List.map_cons, List.map_nil]); first | rfl) ?_
  with_reducible refine (impl_word.calls k t122 a0_2 t123 _ A8.out).mono ?_
  rintro e w16 ⟨v124, rfl, ho0, hb⟩
  refine ⟨_, rfl, ?_⟩
  have n0_ := Aside0.mk (Kd.R_elder' (by (with_reducible repeat (first | apply Kd.R_drewN)); exact HO120.out) (Kd.R_base ho0) hb)
  have n1_ := Aside0.mk (Kd.R_lower (Kd.R_new' ho0 (Kd.R_lt (by (with_reducible repeat (first | apply Kd.R_drewN)); exact HO120.out))) (below_size (by repeat (first | (with_reducible first | exact HB.out | apply pw_below_drewN)))))
  have n2_ := Aside0.mk (blk_below (g := gb116) (o := .cells #[.int .i64 a0_0, .int .i64 a0_1, .int .i64 a0_2, .int .u64 a0_3, .int .u64 a0_4, .int .u64 a0_5] 82 (0, 0)) (by (with_reducible repeat (first | refine blk_drewN ?_ _)); exact BK116.out) hb)
  have n3_ := Aside0.mk (below_step (by repeat (first | (with_reducible first | exact HB.out | apply pw_below_drewN))) hb)
  clear HO120
  clear BK116
  clear HB
  have HO120 := n0_
  have HO125 := n1_
  have BK116 := n2_
  have HB := n3_
  clear n0_ n1_ n2_ n3_
  (try clear hb)
  (try clear hb2)
  (try clear hk)
  (try clear hi)
  (try clear ho0)
  refine hK.out _ _ ⟨(blk_cell BK116.out 0).trans rfl, (blk_cell BK116.out 1).trans rfl, (blk_cell BK116.out 2).trans rfl, (blk_cell BK116.out 3).trans rfl, (blk_cell BK116.out 4).trans rfl, (blk_cell BK116.out 5).trans rfl⟩ (fun hHeld => ?_)
  clear hK K
  refine norm_ (a' := ?_) ?_ ?_
  rotate_left
  ·show Act.put _ (some 24) _ = _
   simp only [Act.put, List.setIfInBounds_toArray, List.set_cons_zero, List.set_cons_succ, i64_w, i32_w]
   rfl
  refine pure_ (i := 13) (N := some 6) (v := ?_) (a' := ?_) #[true, true, true, true, true, true, true, true, true, true, true, true, true, true] rfl rfl (any_of HT_.out (by kernel_rfl)) (fun _ _ _ h => h) (Or.inl ⟨by rfl, ?_⟩) ?_ ?_
  rotate_left
  ·intro w'
   go_simp
   with_reducible rfl
  rotate_left
  ·simp only [Act.put, List.setIfInBounds_toArray, List.set_cons_zero, List.set_cons_succ, i64_w, i32_w]
   rfl
  refine done_ (done_of HT_.out (by kernel_rfl)) ?_
  try go_wp2
  go_ret
  exact ⟨_, by first | rfl, by exact Kd.R_mono HO125.out (fun _ hk => trivial), by repeat (first | (with_reducible first | exact HB.out))⟩
 ·rw [if_neg c4] at H
  have c4b0 : (a0_0 == 1) = false := beq_eq_false_iff_ne.mpr c4
  have c4b1 : (a0_0 != 1) = true := bne_iff_ne.mpr c4
  obtain ⟨y126, hy126⟩ : ∃ y_ : List Int, y_ = (([1] : List Int)) := ⟨_, rfl⟩
  replace H : ((impl_word.f k (IntKind.u64.wrap ((l1.length : Int))) 8).bind fun t129 => (if y126.length + t129.length < 140737488355328 then ((some (y126 ++ t129 : List Int)).bind fun y132 => (if y132.length + l1.length < 140737488355328 then ((some (y132 ++ l1 : List Int)).bind fun y135 => (if y135.length + l2.length < 140737488355328 then (some (y135 ++ l2)) else (none))) else (none))) else (none))) = some r := by first | (have H2_ := (Option.bind_some _ _).symm.trans H; rw [hy126]; with_reducible exact H2_)
  have Ny126 := Aside0.mk hy126
  clear hy126
  replace H := Option.bind_eq_some_iff.mp H
  obtain ⟨t129, A170, H⟩ := H
  replace H : (if y126.length + t129.length < 140737488355328 then ((some (y126 ++ t129 : List Int)).bind fun y132 => (if y132.length + l1.length < 140737488355328 then ((some (y132 ++ l1 : List Int)).bind fun y135 => (if y135.length + l2.length < 140737488355328 then (some (y135 ++ l2)) else (none))) else (none))) else (none)) = some r := H
  have A17 := Aside0.mk A170
  clear A170
  by_cases c18 : y126.length + t129.length < 140737488355328
  ·rw [if_pos c18] at H
   have LMc18 := Aside0.mk c18
   clear c18
   obtain ⟨y132, hy132⟩ : ∃ y_ : List Int, y_ = (y126 ++ t129) := ⟨_, rfl⟩
   replace H : (if y132.length + l1.length < 140737488355328 then ((some (y132 ++ l1 : List Int)).bind fun y135 => (if y135.length + l2.length < 140737488355328 then (some (y135 ++ l2)) else (none))) else (none)) = some r := by first | (have H2_ := (Option.bind_some _ _).symm.trans H; rw [hy132]; with_reducible exact H2_)
   have Ny132 := Aside0.mk hy132
   clear hy132
   by_cases c19 : y132.length + l1.length < 140737488355328
   ·rw [if_pos c19] at H
    have LMc19 := Aside0.mk c19
    clear c19
    obtain ⟨y135, hy135⟩ : ∃ y_ : List Int, y_ = (y132 ++ l1) := ⟨_, rfl⟩
    replace H : (if y135.length + l2.length < 140737488355328 then (some (y135 ++ l2)) else (none)) = some r := by first | (have H2_ := (Option.bind_some _ _).symm.trans H; rw [hy135]; with_reducible exact H2_)
    have Ny135 := Aside0.mk hy135
    clear hy135
    by_cases c20 : y135.length + l2.length < 140737488355328
    ·rw [if_pos c20] at H
     have LMc20 := Aside0.mk c20
     clear c20
     obtain ⟨y138, hy138⟩ : ∃ y_ : List Int, y_ = (y135 ++ l2) := ⟨_, rfl⟩
     replace H : (some y138) = some r := by first | (rw [hy138]; with_reducible exact H)
     have Ny138 := Aside0.mk hy138
     clear hy138
     obtain rfl := Option.some.inj H
     go_enter Tryd.func50, Tryd.ntmps50
     go_wp2_with (first | ((with_reducible refine gate_dst (N := 3) rfl ?_); refine box_event ?hg (N := 3) ?hd (cs := #[.int .i64 a0_0, .int .i64 a0_1, .int .i64 a0_2, .int .u64 a0_3, .int .u64 a0_4, .int .u64 a0_5]) (t := 82) ?hr ?_; (case hd => rfl); (case hg => rfl); (case hr => first | (go_simp; done)); intro gb116 hg w21 hbox hb; have n0_ := Aside0.mk (below_step (by repeat (first | (with_reducible first | exact HB.out))) hb); have n1_ := Aside0.mk (hbox); have n2_ := Aside0.mk ((by rw [hg]; exact (below_size (by repeat (first | (with_reducible first | exact HB.out)))) : w.heap.size ≤ gb116)); have n3_ := Aside0.mk ((by rw [hg]; exact (below_size (by repeat (first | (with_reducible first | exact HB.out)))) : w.heap.size ≤ gb116)); clear HB; have HB := n0_; have BK116 := n1_; have GW116 := n2_; have GE116 := n3_; clear n0_ n1_ n2_ n3_; clear hb hbox hg; have hcz22_0 : w21.cell? ⟨gb116, 0, none⟩ = some (.int .i64 a0_0) := (blk_cell BK116.out 0).trans rfl; have hcz22_1 : w21.cell? ⟨gb116, 1, none⟩ = some (.int .i64 a0_1) := (blk_cell BK116.out 1).trans rfl; have hcz22_2 : w21.cell? ⟨gb116, 2, none⟩ = some (.int .i64 a0_2) := (blk_cell BK116.out 2).trans rfl; have hcz22_3 : w21.cell? ⟨gb116, 3, none⟩ = some (.int .u64 a0_3) := (blk_cell BK116.out 3).trans rfl; have hcz22_4 : w21.cell? ⟨gb116, 4, none⟩ = some (.int .u64 a0_4) := (blk_cell BK116.out 4).trans rfl; have hcz22_5 : w21.cell? ⟨gb116, 5, none⟩ = some (.int .u64 a0_5) := (blk_cell BK116.out 5).trans rfl; have hfz22_0 := blk_frozen BK116.out 0; have hfz22_1 := blk_frozen BK116.out 1; have hfz22_2 := blk_frozen BK116.out 2; have hfz22_3 := blk_frozen BK116.out 3; have hfz22_4 := blk_frozen BK116.out 4; have hfz22_5 := blk_frozen BK116.out 5) | ((with_reducible refine gate_dst (N := 25) rfl ?_); refine Kd.R_lit (Kd.int .u8) _ 5 ?hg (N := 25) ?hd (xs := ([1] : List Int)) (inner := [.int .u8 1]) (ok := fun _ => True) (okp := fun _ => True) ?hr ?hp (fun _ hk => hk) trivial (Below.refl _ _) (Nat.le_refl _) (by simp) ?_; (case hd => rfl); (case hg => rfl); (case hr => first | (go_simp; done)); (case hp => exact (Reps.one (show Kd.M (Kd.int .u8) _ _ _ 1 [.int .u8 1] from rfl) (Reps.none _ _))); intro v127 w23 ho24 hb hg_ hnew_; clear hg_ hnew_; (first | rw [← Ny126.out] at ho24); have n0_ := Aside0.mk (Kd.R_lower ho24 (below_size (by repeat (first | (with_reducible first | exact HB.out))))); have n1_ := Aside0.mk (blk_below (g := gb116) (o := .cells #[.int .i64 a0_0, .int .i64 a0_1, .int .i64 a0_2, .int .u64 a0_3, .int .u64 a0_4, .int .u64 a0_5] 82 (0, 0)) (by exact BK116.out) hb); have n2_ := Aside0.mk (below_step (by repeat (first | (with_reducible first | exact HB.out))) hb); clear BK116; clear HB; have HO128 := n0_; have BK116 := n1_; have HB := n2_; clear n0_ n1_ n2_; clear hb ho24) | ((with_reducible refine gate_callee (f := 86) rfl ?_); refine goesL_ (some 29) rfl rfl Tryd.func86 (by kernel_rfl) rfl #[.int .u64 (IntKind.u64.wrap ((l1.length : Int))), .int .i64 8] rfl (by (try simp only [List.map_toArray, List.map_cons, List.map_nil]); first | rfl) ?_; (with_reducible refine (impl_word.calls k (IntKind.u64.wrap ((l1.length : Int))) 8 t129 _ A17.out).mono ?_); rintro e w25 ⟨v130, rfl, ho0, hb⟩; refine ⟨_, rfl, ?_⟩; have n0_ := Aside0.mk (Kd.R_elder' (by exact HO128.out) (Kd.R_base ho0) hb); have n1_ := Aside0.mk (Kd.R_lower (Kd.R_new' ho0 (Kd.R_lt (by exact HO128.out))) (below_size (by repeat (first | (with_reducible first | exact HB.out))))); have n2_ := Aside0.mk (blk_below (g := gb116) (o := .cells #[.int .i64 a0_0, .int .i64 a0_1, .int .i64 a0_2, .int .u64 a0_3, .int .u64 a0_4, .int .u64 a0_5] 82 (0, 0)) (by exact BK116.out) hb); have n3_ := Aside0.mk (below_step (by repeat (first | (with_reducible first | exact HB.out))) hb); clear HO128; clear BK116; clear HB; have HO128 := n0_; have HO131 := n1_; have BK116 := n2_; have HB := n3_; clear n0_ n1_ n2_ n3_; (try clear hb); (try clear hb2); (try clear hk); (try clear hi); (try clear ho0); obtain ⟨Ao27, co27, eo27⟩ := Kd.R_slice HO131.out; subst eo27) | ((with_reducible refine gate_builtin (b := .append) (xs := #[.tmp 25, .tmp 29]) rfl ?_); at_builtin; refine Kd.R_append_rows (Kd.int .u8) (w0 := w) w.heap.size rfl (.tmp 25) (.tmp 29) 27 5 (.int .u8 0) 1 rfl Tryd.underlying27 info5 rfl (by decide) (by omega) v127 y126 t129 _ _ _ (fun k_ => some k_ ≠ (.slice Ao27 t129.length co27 : Value).ownBlock) (fun _ => False) rfl rfl ?aO ?aR (fun _ _ h => h) (fun _ h => h.elim) ?aF ?aB ?aS ?aL ?_; (case aR => repeat (first | exact (Kd.R_reads' HO131.out).2.2)); (case aB => exact (by repeat (first | (with_reducible first | exact HB.out)))); (case aF => exact (fun k_ hk => Kd.fresh' (Kd.R_lt (by exact HO131.out)) k_ hk)); (case aO => exact (by exact Kd.R_mono HO128.out (fun _ hk => hk.2))); (case aS => exact (below_size (by repeat (first | (with_reducible first | exact HB.out))))); (case aL => have := LMc18.out; omega); intro v133 w26 ho hb hg hat; rw [← Ny132.out] at ho; have n0_ := Aside0.mk (blk_grown (g := gb116) (o := .cells #[.int .i64 a0_0, .int .i64 a0_1, .int .i64 a0_2, .int .u64 a0_3, .int .u64 a0_4, .int .u64 a0_5] 82 (0, 0)) (by exact BK116.out) hg (Kd.R_ne HO128.out BK116.out (by decide))); have n1_ := Aside0.mk (Kd.R_after (ok := (fun _ => True)) (by exact HO131.out) hg hat); have n2_ := Aside0.mk (hb); have n3_ := Aside0.mk (ho); clear BK116; clear HO131; clear HB; clear HO128; have BK116 := n0_; have HO131 := n1_; have HB := n2_; have HO134 := n3_; clear n0_ n1_ n2_ n3_; clear ho hb hg hat) | ((with_reducible refine gate_builtin (b := .append) (xs := #[.tmp 31, .tmp 32]) rfl ?_); at_builtin; refine Kd.R_append_rows (Kd.int .u8) (w0 := w) w.heap.size rfl (.tmp 31) (.tmp 32) 27 5 (.int .u8 0) 1 rfl Tryd.underlying27 info5 rfl (by decide) (by omega) v133 y132 l1 _ _ _ (fun k_ => some k_ ≠ (.slice Ao27 t129.length co27 : Value).ownBlock) (fun _ => False) rfl rfl ?aO ?aR (fun _ _ h => h) (fun _ h => h.elim) ?aF ?aB ?aS ?aL ?_; (case aR => repeat (first | exact (Kd.C_below HR1.out HB.out))); (case aB => exact (by repeat (first | (with_reducible first | exact HB.out)))); (case aF => exact (fun k_ hk => Kd.fresh' (Kd.R_lt (by exact HO131.out)) k_ hk)); (case aO => exact (by exact HO134.out)); (case aS => exact (below_size (by repeat (first | (with_reducible first | exact HB.out))))); (case aL => have := LMc19.out; omega); intro v136 w28 ho hb hg hat; rw [← Ny135.out] at ho; have n0_ := Aside0.mk (blk_grown (g := gb116) (o := .cells #[.int .i64 a0_0, .int .i64 a0_1, .int .i64 a0_2, .int .u64 a0_3, .int .u64 a0_4, .int .u64 a0_5] 82 (0, 0)) (by exact BK116.out) hg (Kd.R_ne HO134.out BK116.out (by decide))); have n1_ := Aside0.mk (Kd.R_after (ok := (fun _ => True)) (by exact HO131.out) hg hat); have n2_ := Aside0.mk (hb); have n3_ := Aside0.mk (ho); clear BK116; clear HO131; clear HB; clear HO134; have BK116 := n0_; have HO131 := n1_; have HB := n2_; have HO137 := n3_; clear n0_ n1_ n2_ n3_; clear ho hb hg hat) | ((with_reducible refine gate_builtin (b := .append) (xs := #[.tmp 33, .tmp 34]) rfl ?_); at_builtin; refine Kd.R_append_rows (Kd.int .u8) (w0 := w) w.heap.size rfl (.tmp 33) (.tmp 34) 27 5 (.int .u8 0) 1 rfl Tryd.underlying27 info5 rfl (by decide) (by omega) v136 y135 l2 _ _ _ (fun k_ => some k_ ≠ (.slice Ao27 t129.length co27 : Value).ownBlock) (fun _ => False) rfl rfl ?aO ?aR (fun _ _ h => h) (fun _ h => h.elim) ?aF ?aB ?aS ?aL ?_; (case aR => repeat (first | exact (Kd.C_below HR2.out HB.out))); (case aB => exact (by repeat (first | (with_reducible first | exact HB.out)))); (case aF => exact (fun k_ hk => Kd.fresh' (Kd.R_lt (by exact HO131.out)) k_ hk)); (case aO => exact (by exact HO137.out)); (case aS => exact (below_size (by repeat (first | (with_reducible first | exact HB.out))))); (case aL => have := LMc20.out; omega); intro v139 w29 ho hb hg hat; rw [← Ny138.out] at ho; have n0_ := Aside0.mk (blk_grown (g := gb116) (o := .cells #[.int .i64 a0_0, .int .i64 a0_1, .int .i64 a0_2, .int .u64 a0_3, .int .u64 a0_4, .int .u64 a0_5] 82 (0, 0)) (by exact BK116.out) hg (Kd.R_ne HO137.out BK116.out (by decide))); have n1_ := Aside0.mk (Kd.R_after (ok := (fun _ => True)) (by exact HO131.out) hg hat); have n2_ := Aside0.mk (hb); have n3_ := Aside0.mk (ho); clear BK116; clear HO131; clear HB; clear HO137; have BK116 := n0_; have HO131 := n1_; have HB := n2_; have HO140 := n3_; clear n0_ n1_ n2_ n3_; clear ho hb hg hat))
     go_ret
     exact ⟨_, by first | rfl, by exact Kd.R_mono HO140.out (fun _ hk => trivial), by repeat (first | (with_reducible first | exact HB.out))⟩
    ·rw [if_neg c20] at H
     exact absurd H (by simp)
   ·rw [if_neg c19] at H
    exact absurd H (by simp)
  ·rw [if_neg c18] at H
   exact absurd H (by simp)
end Go.Proofs.YtielnphmcaecdaaDoor.PAll
