-- Written by a program of this session (wip/tools)
import Derived.Test.YthfgegaakfgjkaaDoorPAllx0
import Derived.Test.YthfgegaakfgjkaaDoorPAllx7
import Derived.Test.YthfgegaakfgjkaaDoorPAllx8
namespace Go.Proofs.YthfgegaakfgjkaaDoor.PAll
open Go.RowKit Go.Proofs.YthfgegaakfgjkaaDoorW.PrintWords Go.Proofs.YthfgegaakfgjkaaDoorW.PrintLast Go.Proofs.YthfgegaakfgjkaaDoorW.PrintMore
attribute [local go_sem] max2_int min2_int max_two min_two max_three min_three max_four min_four   -- for this text's walks alone
set_option linter.unusedVariables false
set_option linter.unusedSimpArgs false

/-! ### spec_PathParts: function 24 -/
def spec_PathParts.f (k : Nat) (a0 : Int) (a1 : Int) : Option ((List (S26))) := (spec_pathIn.f k a0 0 a1).bind fun t271 => (some t271)
theorem spec_PathParts.mono : ∀ a0 a1 k, LeO (spec_PathParts.f k a0 a1) (spec_PathParts.f (k + 1) a0 a1) := by
  intro a0 a1 k
  unfold spec_PathParts.f
  repeat' first
      | (with_reducible exact spec_pathIn.mono _ _ _ _)
      | (with_reducible exact LeO.refl _)
      | (with_reducible exact LeO.none _)
      | (with_reducible refine LeO.ite ?_ ?_)
      | (with_reducible refine LeO.bind ?_ (fun _ => ?_))
      | exact spec_pathIn.mono _ _ _ _
      | exact LeO.none _
      | refine LeO.ite ?_ ?_
      | refine LeO.bind ?_ (fun _ => ?_)
set_option maxHeartbeats 8000000 in
set_option maxRecDepth 100000 in
theorem spec_PathParts.calls (k : Nat) (a0 : Int) (a1 : Int) (r : List (S26)) (w : World) (h : spec_PathParts.f k a0 a1 = some r) :
    Calls Tryd.prog 24 #[.int .u64 a0, .int .u64 a1] w fun e w' => ∃ v0_ : Value, e = .returned (v0_) ∧ Kd.R k26 26 w' w.heap.size (fun _ => True) v0_ r ∧ Below w.heap.size w w' := by
  have hu26 := Tryd.underlying26
  have HB := Aside0.mk (Below.refl w.heap.size w)
  have H : ((spec_pathIn.f k a0 0 a1).bind fun t271 => (some t271)) = some r := h
  clear h
  replace H := Option.bind_eq_some_iff.mp H
  obtain ⟨t271, A30, H⟩ := H
  replace H : (some t271) = some r := H
  have A3 := Aside0.mk A30
  clear A30
  obtain rfl := Option.some.inj H
  go_enter Tryd.func24, Tryd.ntmps24
  go_wp2_with (first | ((with_reducible refine gate_callee (f := 37) rfl ?_); refine goesL_ (some 8) rfl rfl Tryd.func37 (by kernel_rfl) rfl #[.int .u64 a0, .agg #[.int .u64 0, .int .u64 a1]] rfl (by (try simp only [List.map_toArray, List.map_cons, List.map_nil]); first | done | rfl | (simp only [List.length_drop, List.length_take]; rfl)) ?_; (with_reducible refine (spec_pathIn.calls k a0 0 a1 t271 _ A3.out).mono ?_); rintro e w4 ⟨v272, rfl, ho0, hb⟩; refine ⟨_, rfl, ?_⟩; have n0_ := Aside0.mk (Kd.R_lower ho0 (below_size (by repeat (first | (with_reducible first | exact HB.out | apply below_alloc | apply pw_below_drewN | apply below_drew1) | exact HB.out)))); have n1_ := Aside0.mk (below_step (by repeat (first | (with_reducible first | exact HB.out | apply below_alloc | apply pw_below_drewN | apply below_drew1) | exact HB.out)) hb); clear HB; have HO273 := n0_; have HB := n1_; clear n0_ n1_; (try clear hb); (try clear hb2); (try clear hk); (try clear hi); (try clear ho0)))
  go_ret
  exact ⟨_, by first | rfl | (simp [errW_none, errW_some] <;> rfl) | (simp [*, errW_none, errW_some] <;> rfl), by (with_reducible repeat (first | apply Kd.R_alloc | apply Kd.R_drewN | apply Kd.R_drew)); exact HO273.out, by repeat (first | (with_reducible first | exact HB.out | apply below_alloc | apply pw_below_drewN | apply below_drew1) | exact HB.out)⟩

/-! ### spec_fork: function 25 -/
def spec_fork.l0 : Nat → Int → Int → Int → Option (Int × Int)
  | 0, _, _, _ => none
  | k + 1, x1, x275000, x275001 => if 0 ≤ x275000 then (if (x275001 / 2) = ((shr .u64 x1 x275000) / 2) then (some (x275000, shr .u64 x1 x275000)) else (spec_fork.l0 k x1 (IntKind.u64.wrap (x275000 + 1)) (x275001 / 2))) else (none)
def spec_fork.f (k : Nat) (a0_0 : Int) (a0_1 : Int) (a1 : Int) : Option (Int × Int) := spec_fork.l0 k a1 a0_0 a0_1
theorem spec_fork.mono_l : ∀ k, (∀ y0 y1 y2, LeO (spec_fork.l0 k y0 y1 y2) (spec_fork.l0 (k + 1) y0 y1 y2))
  | 0 => fun _ _ _ r h => by simp [spec_fork.l0] at h
  | k + 1 => by
    have ih0 := spec_fork.mono_l k
    · intro y0 y1 y2
      unfold spec_fork.l0
      repeat' first
      | (with_reducible exact ih0 _ _ _)
      | (with_reducible exact LeO.refl _)
      | (with_reducible exact LeO.none _)
      | (with_reducible refine LeO.ite ?_ ?_)
      | (with_reducible refine LeO.bind ?_ (fun _ => ?_))
      | exact ih0 _ _ _
      | exact LeO.none _
      | refine LeO.ite ?_ ?_
      | refine LeO.bind ?_ (fun _ => ?_)
theorem spec_fork.mono : ∀ a0 a1 a2 k, LeO (spec_fork.f k a0 a1 a2) (spec_fork.f (k + 1) a0 a1 a2) := by
  intro a0 a1 a2 k
  have ih0 := spec_fork.mono_l k
  unfold spec_fork.f
  repeat' first
      | (with_reducible exact ih0 _ _ _)
      | (with_reducible exact LeO.refl _)
      | (with_reducible exact LeO.none _)
      | (with_reducible refine LeO.ite ?_ ?_)
      | (with_reducible refine LeO.bind ?_ (fun _ => ?_))
      | exact ih0 _ _ _
      | exact LeO.none _
      | refine LeO.ite ?_ ?_
      | refine LeO.bind ?_ (fun _ => ?_)
set_option maxHeartbeats 8000000 in
set_option maxRecDepth 100000 in
theorem spec_fork.calls (k : Nat) (a0_0 : Int) (a0_1 : Int) (a1 : Int) (r1 : Int) (r2 : Int) (w : World) (h : spec_fork.f k a0_0 a0_1 a1 = some (r1, r2)) :
    Calls Tryd.prog 25 #[.agg #[.int .u64 a0_0, .int .u64 a0_1], .int .u64 a1] w fun e w' => e = .returned (.agg #[.int .u64 r1, .int .u64 r2]) ∧ Below w.heap.size w w' := by
  have hu36 := Tryd.underlying36
  have HB := Aside0.mk (Below.refl w.heap.size w)
  have H : (spec_fork.l0 k a1 a0_0 a0_1) = some (r1, r2) := h
  clear h
  have H' := Aside0.mk H
  clear H
  go_enter Tryd.func25, Tryd.ntmps25
  go_wp2_with (first | ((with_reducible refine gate_dst (N := 2) rfl ?_); refine box_event ?hg (N := 2) ?hd (cs := #[.int .u64 a0_0, .int .u64 a0_1]) (t := 36) ?hr ?_; (case hd => rfl); (case hg => rfl); (case hr => first | (go_simp; done) | (go_simp; rfl)); intro gb274 hg w3 hbox hb; have n0_ := Aside0.mk (below_step (by repeat (first | (with_reducible first | exact HB.out | apply below_alloc | apply pw_below_drewN | apply below_drew1) | exact HB.out)) hb); have n1_ := Aside0.mk (hbox); have n2_ := Aside0.mk ((by rw [hg]; exact (below_size (by repeat (first | (with_reducible first | exact HB.out | apply below_alloc | apply pw_below_drewN | apply below_drew1) | exact HB.out))) : w.heap.size ≤ gb274)); have n3_ := Aside0.mk ((by rw [hg]; exact (below_size (by repeat (first | (with_reducible first | exact HB.out | apply below_alloc | apply pw_below_drewN | apply below_drew1) | exact HB.out))) : w.heap.size ≤ gb274)); clear HB; have HB := n0_; have BK274 := n1_; have GW274 := n2_; have GE274 := n3_; clear n0_ n1_ n2_ n3_; clear hb hbox hg) | ((with_reducible refine gate_dst (N := 4) rfl ?_); refine box_event ?hg (N := 4) ?hd (cs := #[.int .u64 0, .int .u64 0]) (t := 36) ?hr ?_; (case hd => rfl); (case hg => rfl); (case hr => first | (go_simp; done) | (go_simp; rfl)); intro gb275 hg w4 hbox hb; have n0_ := Aside0.mk (blk_below (g := gb274) (o := .cells #[.int .u64 a0_0, .int .u64 a0_1] 36 (0, 0)) (by (with_reducible repeat (first | refine blk_drewN ?_ _ | refine blk_drew ?_ | refine blk_alloc ?_ _)); exact BK274.out) hb); have n1_ := Aside0.mk (below_step (by repeat (first | (with_reducible first | exact HB.out | apply below_alloc | apply pw_below_drewN | apply below_drew1 | refine below_set ?_ GE274.out) | exact HB.out)) hb); have n2_ := Aside0.mk (hbox); have n3_ := Aside0.mk ((by rw [hg]; exact (below_size (by repeat (first | (with_reducible first | exact HB.out | apply below_alloc | apply pw_below_drewN | apply below_drew1 | refine below_set ?_ GE274.out) | exact HB.out))) : w.heap.size ≤ gb275)); have n4_ := Aside0.mk ((by rw [hg]; exact (below_size (by repeat (first | (with_reducible first | exact HB.out | apply below_alloc | apply pw_below_drewN | apply below_drew1 | refine below_set ?_ GE274.out) | exact HB.out))) : w.heap.size ≤ gb275)); have n5_ := Aside0.mk ((by rw [hg]; exact Nat.ne_of_lt (blk_lt (g := gb274) (o := .cells #[.int .u64 a0_0, .int .u64 a0_1] 36 (0, 0)) (by (with_reducible repeat (first | refine blk_drewN ?_ _ | refine blk_drew ?_ | refine blk_alloc ?_ _)); exact BK274.out)) : gb274 ≠ gb275)); have n6_ := Aside0.mk ((by rw [hg]; exact Nat.ne_of_gt (blk_lt (g := gb274) (o := .cells #[.int .u64 a0_0, .int .u64 a0_1] 36 (0, 0)) (by (with_reducible repeat (first | refine blk_drewN ?_ _ | refine blk_drew ?_ | refine blk_alloc ?_ _)); exact BK274.out)) : gb275 ≠ gb274)); clear BK274; clear HB; have BK274 := n0_; have HB := n1_; have BK275 := n2_; have GW275 := n3_; have GE275 := n4_; have NB274_275 := n5_; have NB275_274 := n6_; clear n0_ n1_ n2_ n3_ n4_ n5_ n6_; clear hb hbox hg))
  try simp only [Act.put, List.setIfInBounds_toArray, List.set_cons_zero, List.set_cons_succ]
  go_loopg [] k (fun kq w' => ∃ (x275000_1 : Int) (x275001_1 : Int), Aside0 (spec_fork.l0 kq a1 x275000_1 x275001_1 = some (r1, r2)) ∧ Aside0 (kq ≤ k) ∧ Aside0 (w'.heap[gb274]? = some (.cells #[.int .u64 x275000_1, .int .u64 x275001_1] 36 (0, 0))) ∧ Aside0 (w'.heap[gb275]? = some (.cells #[.int .u64 0, .int .u64 0] 36 (0, 0))) ∧ Aside0 (Below w.heap.size w w'))
  case atStart => exact ⟨(a0_0), (a0_1), H', ⟨Nat.le_refl _⟩, ⟨by (with_reducible repeat (first | refine blk_drewN ?_ _ | refine blk_drew ?_ | refine blk_alloc ?_ _)); exact BK274.out⟩, ⟨by (with_reducible repeat (first | refine blk_drewN ?_ _ | refine blk_drew ?_ | refine blk_alloc ?_ _)); exact BK275.out⟩, ⟨by repeat (first | (with_reducible first | exact HB.out | apply below_alloc | apply pw_below_drewN | apply below_drew1 | refine below_set ?_ GE274.out | refine below_set ?_ GE275.out) | exact HB.out)⟩⟩
  case round =>
    clear H'
    try clear c2
    try clear p2
    obtain ⟨x275000_1, x275001_1, HA, HK1, BK274, BK275, HB⟩ := hrel
    cases gk with
    | zero => exact absurd HA.out (by simp [spec_fork.l0])
    | succ k1 =>
      have H := HA.out
      clear HA
      simp only [spec_fork.l0] at H
      by_cases c5 : 0 ≤ x275000_1
      · rw [if_pos c5] at H
        have c5b0 := eq_true c5
        have c5b1 : decide (0 ≤ x275000_1) = true := decide_eq_true c5
        clear c5
        obtain ⟨ji6, hji6⟩ : ∃ j_ : Int, (shr .u64 a1 x275000_1) = j_ := ⟨_, rfl⟩
        replace H : (if (x275001_1 / 2) = ((ji6) / 2) then (some (x275000_1, ji6)) else (spec_fork.l0 k1 a1 (IntKind.u64.wrap (x275000_1 + 1)) (x275001_1 / 2))) = some (r1, r2) := by first | (rw [hji6] at H; exact H) | (simp only [hji6] at H ⊢; exact H)
        have hji6_ : (a1 / 2 ^ min x275000_1.toNat 64) = ji6 := hji6
        have hji6z : x275000_1 ≤ 64 → (a1 / 2 ^ x275000_1.toNat) = ji6 := shr_small hji6
        by_cases c7 : (x275001_1 / 2) = ((ji6) / 2)
        · rw [if_pos c7] at H
          have c7b0 : ((x275001_1 / 2) == ((ji6) / 2)) = true := beq_iff_eq.mpr c7
          have c7b1 : ((x275001_1 / 2) != ((ji6) / 2)) = false := bne_eq_false_iff_eq.mpr c7
          clear c7
          have c8b0 := eq_true (of_decide_eq_true (by first | (with_reducible assumption) | assumption) : 0 ≤ x275000_1)
          simp only [Option.some.injEq, Prod.mk.injEq] at H
          obtain ⟨rfl, rfl⟩ := H
          have hnb9 := NB274_275.out
          have hnc9 := NB275_274.out
          have hcz10_0 : wr.cell? ⟨gb274, 0, none⟩ = some (.int .u64 x275000_1) := (blk_cell BK274.out 0).trans rfl
          have hcz10_1 : wr.cell? ⟨gb274, 1, none⟩ = some (.int .u64 x275001_1) := (blk_cell BK274.out 1).trans rfl
          have hfz10_0 := blk_frozen BK274.out 0
          have hfz10_1 := blk_frozen BK274.out 1
          have hcz11_0 : wr.cell? ⟨gb275, 0, none⟩ = some (.int .u64 0) := (blk_cell BK275.out 0).trans rfl
          have hcz11_1 : wr.cell? ⟨gb275, 1, none⟩ = some (.int .u64 0) := (blk_cell BK275.out 1).trans rfl
          have hfz11_0 := blk_frozen BK275.out 0
          have hfz11_1 := blk_frozen BK275.out 1
          go_wp2
          refine bodyPost_ret (results_cell_row rfl _ _ gb275 36 #[.int .u64 x275000_1, .int .u64 ji6] (0, 0) _ rfl (by (with_reducible repeat (first | refine blk_drewN ?_ _ | refine blk_drew ?_ | refine blk_alloc ?_ _)); refine blk_put (cs := #[.int .u64 x275000_1, .int .u64 0]) ?_ 1 _ rfl; (with_reducible repeat (first | refine blk_drewN ?_ _ | refine blk_drew ?_ | refine blk_alloc ?_ _)); refine blk_put (cs := #[.int .u64 0, .int .u64 0]) ?_ 0 _ rfl; (with_reducible repeat (first | refine blk_drewN ?_ _ | refine blk_drew ?_ | refine blk_alloc ?_ _)); exact BK275.out) Tryd.underlying36 rfl (by kernel_rfl)) rfl ?_
          exact ⟨by first | rfl | (simp [errW_none, errW_some] <;> rfl) | (simp only [← hji6]; first | rfl | (simp [errW_none, errW_some] <;> rfl)) | (simp [*, errW_none, errW_some] <;> rfl), by repeat (first | (with_reducible first | exact HB.out | apply below_alloc | apply pw_below_drewN | apply below_drew1 | refine below_set ?_ GE274.out | refine below_set ?_ GE275.out) | exact HB.out)⟩
        · rw [if_neg c7] at H
          have c7b0 : ((x275001_1 / 2) == ((ji6) / 2)) = false := beq_eq_false_iff_ne.mpr c7
          have c7b1 : ((x275001_1 / 2) != ((ji6) / 2)) = true := bne_iff_ne.mpr c7
          have H' := Aside0.mk H
          clear H
          have hnb12 := NB274_275.out
          have hnc12 := NB275_274.out
          have hcz13_0 : wr.cell? ⟨gb274, 0, none⟩ = some (.int .u64 x275000_1) := (blk_cell BK274.out 0).trans rfl
          have hcz13_1 : wr.cell? ⟨gb274, 1, none⟩ = some (.int .u64 x275001_1) := (blk_cell BK274.out 1).trans rfl
          have hfz13_0 := blk_frozen BK274.out 0
          have hfz13_1 := blk_frozen BK274.out 1
          go_wp2
          go_roundg k1
          case measure => have := HK1.out; omega
          case rel => exact ⟨(IntKind.u64.wrap (x275000_1 + 1)), (x275001_1 / 2), H', ⟨by have := HK1.out; omega⟩, ⟨by (with_reducible repeat (first | refine blk_drewN ?_ _ | refine blk_drew ?_ | refine blk_alloc ?_ _)); refine blk_put (cs := #[.int .u64 (IntKind.u64.wrap (x275000_1 + 1)), .int .u64 x275001_1]) ?_ 1 _ rfl; (with_reducible repeat (first | refine blk_drewN ?_ _ | refine blk_drew ?_ | refine blk_alloc ?_ _)); refine blk_put (cs := #[.int .u64 x275000_1, .int .u64 x275001_1]) ?_ 0 _ rfl; (with_reducible repeat (first | refine blk_drewN ?_ _ | refine blk_drew ?_ | refine blk_alloc ?_ _)); exact BK274.out⟩, ⟨by (with_reducible repeat (first | refine blk_drewN ?_ _ | refine blk_drew ?_ | refine blk_alloc ?_ _)); refine blk_far ?_ NB275_274.out _; (with_reducible repeat (first | refine blk_drewN ?_ _ | refine blk_drew ?_ | refine blk_alloc ?_ _)); refine blk_far ?_ NB275_274.out _; (with_reducible repeat (first | refine blk_drewN ?_ _ | refine blk_drew ?_ | refine blk_alloc ?_ _)); exact BK275.out⟩, ⟨by repeat (first | (with_reducible first | exact HB.out | apply below_alloc | apply pw_below_drewN | apply below_drew1 | refine below_set ?_ GE274.out | refine below_set ?_ GE275.out) | exact HB.out)⟩⟩
      · rw [if_neg c5] at H
        exact absurd H (by simp)

/-! ### spec_InclusionProof: function 15 -/
def spec_InclusionProof.f (k : Nat) (a0 : Int) (a1 : Int) : Option ((List (S36)) × Int × Int × Int × Int) := (spec_PathParts.f k a0 a1).bind fun t277 => ((spec_proofOf.f k a0 (IntKind.u64.wrap (a0 + 1)) t277).bind fun bt280 => ((spec_fork.f k 0 a0 a1).bind fun bt288 => (some (bt280.1, bt288.1, bt288.2, bt280.2.2.2.1, bt280.2.2.2.2))))
theorem spec_InclusionProof.mono : ∀ a0 a1 k, LeO (spec_InclusionProof.f k a0 a1) (spec_InclusionProof.f (k + 1) a0 a1) := by
  intro a0 a1 k
  unfold spec_InclusionProof.f
  repeat' first
      | (with_reducible exact spec_PathParts.mono _ _ _)
      | (with_reducible exact spec_fork.mono _ _ _ _)
      | (with_reducible exact spec_proofOf.mono _ _ _ _)
      | (with_reducible exact LeO.refl _)
      | (with_reducible exact LeO.none _)
      | (with_reducible refine LeO.ite ?_ ?_)
      | (with_reducible refine LeO.bind ?_ (fun _ => ?_))
      | exact spec_PathParts.mono _ _ _
      | exact spec_fork.mono _ _ _ _
      | exact spec_proofOf.mono _ _ _ _
      | exact LeO.none _
      | refine LeO.ite ?_ ?_
      | refine LeO.bind ?_ (fun _ => ?_)
set_option maxHeartbeats 8000000 in
set_option maxRecDepth 100000 in
theorem spec_InclusionProof.calls (k : Nat) (a0 : Int) (a1 : Int) (r1 : List (S36)) (r2 : Int) (r3 : Int) (r4 : Int) (r5 : Int) (w : World) (h : spec_InclusionProof.f k a0 a1 = some (r1, r2, r3, r4, r5)) :
    Calls Tryd.prog 15 #[.int .u64 a0, .int .u64 a1] w fun e w' => ∃ v0_ : Value, e = .returned (.agg #[v0_, .int .u64 r2, .int .u64 r3, .int .i64 r4, .int .i64 r5]) ∧ Kd.R k36 36 w' w.heap.size (fun _ => True) v0_ r1 ∧ Below w.heap.size w w' := by
  have hu38 := Tryd.underlying38
  have hu26 := Tryd.underlying26
  have hu36 := Tryd.underlying36
  have HB := Aside0.mk (Below.refl w.heap.size w)
  have H : ((spec_PathParts.f k a0 a1).bind fun t277 => ((spec_proofOf.f k a0 (IntKind.u64.wrap (a0 + 1)) t277).bind fun bt280 => ((spec_fork.f k 0 a0 a1).bind fun bt288 => (some (bt280.1, bt288.1, bt288.2, bt280.2.2.2.1, bt280.2.2.2.2))))) = some (r1, r2, r3, r4, r5) := h
  clear h
  replace H := Option.bind_eq_some_iff.mp H
  obtain ⟨t277, A30, H⟩ := H
  replace H : ((spec_proofOf.f k a0 (IntKind.u64.wrap (a0 + 1)) t277).bind fun bt280 => ((spec_fork.f k 0 a0 a1).bind fun bt288 => (some (bt280.1, bt288.1, bt288.2, bt280.2.2.2.1, bt280.2.2.2.2)))) = some (r1, r2, r3, r4, r5) := H
  have A3 := Aside0.mk A30
  clear A30
  replace H := Option.bind_eq_some_iff.mp H
  obtain ⟨⟨t280, t283, t284, t285, t286⟩, A40, H⟩ := H
  replace H : ((spec_fork.f k 0 a0 a1).bind fun bt288 => (some (t280, bt288.1, bt288.2, t285, t286))) = some (r1, r2, r3, r4, r5) := H
  have A4 := Aside0.mk A40
  clear A40
  replace H := Option.bind_eq_some_iff.mp H
  obtain ⟨⟨t288, t289⟩, A50, H⟩ := H
  replace H : (some (t280, t288, t289, t285, t286)) = some (r1, r2, r3, r4, r5) := H
  have A5 := Aside0.mk A50
  clear A50
  simp only [Option.some.injEq, Prod.mk.injEq] at H
  obtain ⟨rfl, rfl, rfl, rfl, rfl⟩ := H
  go_enter Tryd.func15, Tryd.ntmps15
  go_wp2_with (first | ((with_reducible refine gate_dst (N := 4) rfl ?_); refine box_event ?hg (N := 4) ?hd (cs := #[.slice none 0 0, .int .u64 0, .int .u64 0, .int .i64 0, .int .i64 0]) (t := 38) ?hr ?_; (case hd => rfl); (case hg => rfl); (case hr => first | (go_simp; done) | (go_simp; rfl)); intro gb276 hg w6 hbox hb; have n0_ := Aside0.mk (below_step (by repeat (first | (with_reducible first | exact HB.out | apply below_alloc | apply pw_below_drewN | apply below_drew1) | exact HB.out)) hb); have n1_ := Aside0.mk (hbox); have n2_ := Aside0.mk ((by rw [hg]; exact (below_size (by repeat (first | (with_reducible first | exact HB.out | apply below_alloc | apply pw_below_drewN | apply below_drew1) | exact HB.out))) : w.heap.size ≤ gb276)); have n3_ := Aside0.mk ((by rw [hg]; exact (below_size (by repeat (first | (with_reducible first | exact HB.out | apply below_alloc | apply pw_below_drewN | apply below_drew1) | exact HB.out))) : w.heap.size ≤ gb276)); clear HB; have HB := n0_; have BK276 := n1_; have GW276 := n2_; have GE276 := n3_; clear n0_ n1_ n2_ n3_; clear hb hbox hg) | ((with_reducible refine gate_callee (f := 24) rfl ?_); refine goesL_ (some 12) rfl rfl Tryd.func24 (by kernel_rfl) rfl #[.int .u64 a0, .int .u64 a1] rfl (by (try simp only [List.map_toArray, List.map_cons, List.map_nil]); first | done | rfl | (simp only [List.length_drop, List.length_take]; rfl)) ?_; (with_reducible refine (spec_PathParts.calls k a0 a1 t277 _ A3.out).mono ?_); rintro e w7 ⟨v278, rfl, ho0, hb⟩; refine ⟨_, rfl, ?_⟩; have n0_ := Aside0.mk (Kd.R_lower ho0 (below_size (by repeat (first | (with_reducible first | exact HB.out | apply below_alloc | apply pw_below_drewN | apply below_drew1 | refine below_set ?_ GE276.out) | exact HB.out)))); have n1_ := Aside0.mk (blk_below (g := gb276) (o := .cells #[.slice none 0 0, .int .u64 0, .int .u64 0, .int .i64 0, .int .i64 0] 38 (0, 0)) (by (with_reducible repeat (first | refine blk_drewN ?_ _ | refine blk_drew ?_ | refine blk_alloc ?_ _)); exact BK276.out) hb); have n2_ := Aside0.mk (below_step (by repeat (first | (with_reducible first | exact HB.out | apply below_alloc | apply pw_below_drewN | apply below_drew1 | refine below_set ?_ GE276.out) | exact HB.out)) hb); clear BK276; clear HB; have HO279 := n0_; have BK276 := n1_; have HB := n2_; clear n0_ n1_ n2_; (try clear hb); (try clear hb2); (try clear hk); (try clear hi); (try clear ho0); obtain ⟨Ao8, co8, eo8⟩ := Kd.R_slice HO279.out; subst eo8) | ((with_reducible refine gate_callee (f := 23) rfl ?_); refine goesL_ (some 13) rfl rfl Tryd.func23 (by kernel_rfl) rfl #[.agg #[.int .u64 a0, .int .u64 (IntKind.u64.wrap (a0 + 1))], .slice Ao8 t277.length co8] rfl (by (try simp only [List.map_toArray, List.map_cons, List.map_nil]); first | done | rfl | (simp only [List.length_drop, List.length_take]; rfl)) ?_; (with_reducible refine (spec_proofOf.calls k a0 (IntKind.u64.wrap (a0 + 1)) _ _ t277 t280 t283 t284 t285 t286 _ ?side1 ?side2 A4.out).mono ?_); (case side1 => repeat (first | exact (Kd.R_reads' HO279.out).2.2 | (with_reducible refine Kd.C_alloc ?_ _) | (with_reducible refine Kd.C_drewN ?_ _) | (with_reducible refine Kd.C_drew ?_))); (case side2 => exact (Kd.R_reads' HO279.out).2.1); rintro e w9 ⟨v281, rfl, ho0, hb⟩; refine ⟨_, rfl, ?_⟩; have n0_ := Aside0.mk (Kd.R_below (by (with_reducible repeat (first | apply Kd.R_alloc | apply Kd.R_drewN | apply Kd.R_drew)); exact HO279.out) hb); have n1_ := Aside0.mk (Kd.R_lower ho0 (below_size (by repeat (first | (with_reducible first | exact HB.out | apply below_alloc | apply pw_below_drewN | apply below_drew1 | refine below_set ?_ GE276.out) | exact HB.out)))); have n2_ := Aside0.mk (blk_below (g := gb276) (o := .cells #[.slice none 0 0, .int .u64 0, .int .u64 0, .int .i64 0, .int .i64 0] 38 (0, 0)) (by (with_reducible repeat (first | refine blk_drewN ?_ _ | refine blk_drew ?_ | refine blk_alloc ?_ _)); exact BK276.out) hb); have n3_ := Aside0.mk (below_step (by repeat (first | (with_reducible first | exact HB.out | apply below_alloc | apply pw_below_drewN | apply below_drew1 | refine below_set ?_ GE276.out) | exact HB.out)) hb); clear HO279; clear BK276; clear HB; have HO279 := n0_; have HO282 := n1_; have BK276 := n2_; have HB := n3_; clear n0_ n1_ n2_ n3_; (try clear hb); (try clear hb2); (try clear hk); (try clear hi); (try clear ho0)) | ((with_reducible refine gate_dst (N := 5) rfl ?_); refine box_event ?hg (N := 5) ?hd (cs := #[.slice none 0 0, .int .u64 0, .int .u64 0, .int .i64 0, .int .i64 0]) (t := 38) ?hr ?_; (case hd => rfl); (case hg => rfl); (case hr => first | (go_simp; done) | (go_simp; rfl)); intro gb287 hg w10 hbox hb; have n0_ := Aside0.mk (Kd.R_below (by (with_reducible repeat (first | apply Kd.R_alloc | apply Kd.R_drewN | apply Kd.R_drew)); exact HO279.out) hb); have n1_ := Aside0.mk (Kd.R_below (by (with_reducible repeat (first | apply Kd.R_alloc | apply Kd.R_drewN | apply Kd.R_drew)); exact HO282.out) hb); have n2_ := Aside0.mk (blk_below (g := gb276) (o := .cells #[.slice none 0 0, .int .u64 0, .int .u64 0, .int .i64 0, .int .i64 0] 38 (0, 0)) (by (with_reducible repeat (first | refine blk_drewN ?_ _ | refine blk_drew ?_ | refine blk_alloc ?_ _)); exact BK276.out) hb); have n3_ := Aside0.mk (below_step (by repeat (first | (with_reducible first | exact HB.out | apply below_alloc | apply pw_below_drewN | apply below_drew1 | refine below_set ?_ GE276.out) | exact HB.out)) hb); have n4_ := Aside0.mk (hbox); have n5_ := Aside0.mk ((by rw [hg]; exact (below_size (by repeat (first | (with_reducible first | exact HB.out | apply below_alloc | apply pw_below_drewN | apply below_drew1 | refine below_set ?_ GE276.out) | exact HB.out))) : w.heap.size ≤ gb287)); have n6_ := Aside0.mk ((by rw [hg]; exact (below_size (by repeat (first | (with_reducible first | exact HB.out | apply below_alloc | apply pw_below_drewN | apply below_drew1 | refine below_set ?_ GE276.out) | exact HB.out))) : w.heap.size ≤ gb287)); have n7_ := Aside0.mk ((by rw [hg]; exact Nat.ne_of_lt (blk_lt (g := gb276) (o := .cells #[.slice none 0 0, .int .u64 0, .int .u64 0, .int .i64 0, .int .i64 0] 38 (0, 0)) (by (with_reducible repeat (first | refine blk_drewN ?_ _ | refine blk_drew ?_ | refine blk_alloc ?_ _)); exact BK276.out)) : gb276 ≠ gb287)); have n8_ := Aside0.mk ((by rw [hg]; exact Nat.ne_of_gt (blk_lt (g := gb276) (o := .cells #[.slice none 0 0, .int .u64 0, .int .u64 0, .int .i64 0, .int .i64 0] 38 (0, 0)) (by (with_reducible repeat (first | refine blk_drewN ?_ _ | refine blk_drew ?_ | refine blk_alloc ?_ _)); exact BK276.out)) : gb287 ≠ gb276)); clear HO279; clear HO282; clear BK276; clear HB; have HO279 := n0_; have HO282 := n1_; have BK276 := n2_; have HB := n3_; have BK287 := n4_; have GW287 := n5_; have GE287 := n6_; have NB276_287 := n7_; have NB287_276 := n8_; clear n0_ n1_ n2_ n3_ n4_ n5_ n6_ n7_ n8_; clear hb hbox hg; obtain ⟨Ao11, co11, eo11⟩ := Kd.R_slice HO282.out; subst eo11; have hnb12 := NB287_276.out; have hnc12 := NB276_287.out; have hcz13_0 : w10.cell? ⟨gb287, 0, none⟩ = some (.slice none 0 0) := (blk_cell BK287.out 0).trans rfl; have hcz13_1 : w10.cell? ⟨gb287, 1, none⟩ = some (.int .u64 0) := (blk_cell BK287.out 1).trans rfl; have hcz13_2 : w10.cell? ⟨gb287, 2, none⟩ = some (.int .u64 0) := (blk_cell BK287.out 2).trans rfl; have hcz13_3 : w10.cell? ⟨gb287, 3, none⟩ = some (.int .i64 0) := (blk_cell BK287.out 3).trans rfl; have hcz13_4 : w10.cell? ⟨gb287, 4, none⟩ = some (.int .i64 0) := (blk_cell BK287.out 4).trans rfl; have hfz13_0 := blk_frozen BK287.out 0; have hfz13_1 := blk_frozen BK287.out 1; have hfz13_2 := blk_frozen BK287.out 2; have hfz13_3 := blk_frozen BK287.out 3; have hfz13_4 := blk_frozen BK287.out 4) | ((with_reducible refine gate_callee (f := 25) rfl ?_); refine goesL_ (some 17) rfl rfl Tryd.func25 (by kernel_rfl) rfl #[.agg #[.int .u64 0, .int .u64 a0], .int .u64 a1] rfl (by (try simp only [List.map_toArray, List.map_cons, List.map_nil]); first | done | rfl | (simp only [List.length_drop, List.length_take]; rfl)) ?_; (with_reducible refine (spec_fork.calls k 0 a0 a1 t288 t289 _ A5.out).mono ?_); rintro e w14 ⟨rfl, hb⟩; refine ⟨_, rfl, ?_⟩; have n0_ := Aside0.mk (Kd.R_below (by (with_reducible repeat (first | apply Kd.R_alloc | apply Kd.R_drewN | apply Kd.R_drew)); exact (Kd.R_mono (Kd.R_far (p := ⟨gb287, 4, none⟩) (Kd.R_far (p := ⟨gb287, 3, none⟩) (Kd.R_far (p := ⟨gb287, 2, none⟩) (Kd.R_far (p := ⟨gb287, 1, none⟩) (Kd.R_far (p := ⟨gb287, 0, none⟩) (Kd.R_types HO279.out BK287.out (by decide)) (fun _ hk => hk.2) (.slice Ao11 t280.length co11)) (fun _ hk => hk.2) (.int .u64 t283)) (fun _ hk => hk.2) (.int .u64 t284)) (fun _ hk => hk.2) (.int .i64 t285)) (fun _ hk => hk.2) (.int .i64 t286)) (fun _ h_ => h_.1))) hb); have n1_ := Aside0.mk (Kd.R_below (by (with_reducible repeat (first | apply Kd.R_alloc | apply Kd.R_drewN | apply Kd.R_drew)); exact (Kd.R_mono (Kd.R_far (p := ⟨gb287, 4, none⟩) (Kd.R_far (p := ⟨gb287, 3, none⟩) (Kd.R_far (p := ⟨gb287, 2, none⟩) (Kd.R_far (p := ⟨gb287, 1, none⟩) (Kd.R_far (p := ⟨gb287, 0, none⟩) (Kd.R_types HO282.out BK287.out (by decide)) (fun _ hk => hk.2) (.slice Ao11 t280.length co11)) (fun _ hk => hk.2) (.int .u64 t283)) (fun _ hk => hk.2) (.int .u64 t284)) (fun _ hk => hk.2) (.int .i64 t285)) (fun _ hk => hk.2) (.int .i64 t286)) (fun _ h_ => h_.1))) hb); have n2_ := Aside0.mk (blk_below (g := gb276) (o := .cells #[.slice none 0 0, .int .u64 0, .int .u64 0, .int .i64 0, .int .i64 0] 38 (0, 0)) (by (with_reducible repeat (first | refine blk_drewN ?_ _ | refine blk_drew ?_ | refine blk_alloc ?_ _)); refine blk_far ?_ NB276_287.out _; (with_reducible repeat (first | refine blk_drewN ?_ _ | refine blk_drew ?_ | refine blk_alloc ?_ _)); refine blk_far ?_ NB276_287.out _; (with_reducible repeat (first | refine blk_drewN ?_ _ | refine blk_drew ?_ | refine blk_alloc ?_ _)); refine blk_far ?_ NB276_287.out _; (with_reducible repeat (first | refine blk_drewN ?_ _ | refine blk_drew ?_ | refine blk_alloc ?_ _)); refine blk_far ?_ NB276_287.out _; (with_reducible repeat (first | refine blk_drewN ?_ _ | refine blk_drew ?_ | refine blk_alloc ?_ _)); refine blk_far ?_ NB276_287.out _; (with_reducible repeat (first | refine blk_drewN ?_ _ | refine blk_drew ?_ | refine blk_alloc ?_ _)); exact BK276.out) hb); have n3_ := Aside0.mk (blk_below (g := gb287) (o := .cells #[.slice Ao11 t280.length co11, .int .u64 t283, .int .u64 t284, .int .i64 t285, .int .i64 t286] 38 (0, 0)) (by (with_reducible repeat (first | refine blk_drewN ?_ _ | refine blk_drew ?_ | refine blk_alloc ?_ _)); refine blk_put (cs := #[.slice Ao11 t280.length co11, .int .u64 t283, .int .u64 t284, .int .i64 t285, .int .i64 0]) ?_ 4 _ rfl; (with_reducible repeat (first | refine blk_drewN ?_ _ | refine blk_drew ?_ | refine blk_alloc ?_ _)); refine blk_put (cs := #[.slice Ao11 t280.length co11, .int .u64 t283, .int .u64 t284, .int .i64 0, .int .i64 0]) ?_ 3 _ rfl; (with_reducible repeat (first | refine blk_drewN ?_ _ | refine blk_drew ?_ | refine blk_alloc ?_ _)); refine blk_put (cs := #[.slice Ao11 t280.length co11, .int .u64 t283, .int .u64 0, .int .i64 0, .int .i64 0]) ?_ 2 _ rfl; (with_reducible repeat (first | refine blk_drewN ?_ _ | refine blk_drew ?_ | refine blk_alloc ?_ _)); refine blk_put (cs := #[.slice Ao11 t280.length co11, .int .u64 0, .int .u64 0, .int .i64 0, .int .i64 0]) ?_ 1 _ rfl; (with_reducible repeat (first | refine blk_drewN ?_ _ | refine blk_drew ?_ | refine blk_alloc ?_ _)); refine blk_put (cs := #[.slice none 0 0, .int .u64 0, .int .u64 0, .int .i64 0, .int .i64 0]) ?_ 0 _ rfl; (with_reducible repeat (first | refine blk_drewN ?_ _ | refine blk_drew ?_ | refine blk_alloc ?_ _)); exact BK287.out) hb); have n4_ := Aside0.mk (below_step (by repeat (first | (with_reducible first | exact HB.out | apply below_alloc | apply pw_below_drewN | apply below_drew1 | refine below_set ?_ GE276.out | refine below_set ?_ GE287.out) | exact HB.out)) hb); clear HO279; clear HO282; clear BK276; clear BK287; clear HB; have HO279 := n0_; have HO282 := n1_; have BK276 := n2_; have BK287 := n3_; have HB := n4_; clear n0_ n1_ n2_ n3_ n4_; (try clear hb); (try clear hb2); (try clear hk); (try clear hi); have hcz15_0 : w14.cell? ⟨gb287, 0, none⟩ = some (.slice Ao11 t280.length co11) := (blk_cell BK287.out 0).trans rfl; have hcz15_1 : w14.cell? ⟨gb287, 1, none⟩ = some (.int .u64 t283) := (blk_cell BK287.out 1).trans rfl; have hcz15_2 : w14.cell? ⟨gb287, 2, none⟩ = some (.int .u64 t284) := (blk_cell BK287.out 2).trans rfl; have hcz15_3 : w14.cell? ⟨gb287, 3, none⟩ = some (.int .i64 t285) := (blk_cell BK287.out 3).trans rfl; have hcz15_4 : w14.cell? ⟨gb287, 4, none⟩ = some (.int .i64 t286) := (blk_cell BK287.out 4).trans rfl; have hfz15_0 := blk_frozen BK287.out 0; have hfz15_1 := blk_frozen BK287.out 1; have hfz15_2 := blk_frozen BK287.out 2; have hfz15_3 := blk_frozen BK287.out 3; have hfz15_4 := blk_frozen BK287.out 4; have hcz16_0 : w14.cell? ⟨gb276, 0, none⟩ = some (.slice none 0 0) := (blk_cell BK276.out 0).trans rfl; have hcz16_1 : w14.cell? ⟨gb276, 1, none⟩ = some (.int .u64 0) := (blk_cell BK276.out 1).trans rfl; have hcz16_2 : w14.cell? ⟨gb276, 2, none⟩ = some (.int .u64 0) := (blk_cell BK276.out 2).trans rfl; have hcz16_3 : w14.cell? ⟨gb276, 3, none⟩ = some (.int .i64 0) := (blk_cell BK276.out 3).trans rfl; have hcz16_4 : w14.cell? ⟨gb276, 4, none⟩ = some (.int .i64 0) := (blk_cell BK276.out 4).trans rfl; have hfz16_0 := blk_frozen BK276.out 0; have hfz16_1 := blk_frozen BK276.out 1; have hfz16_2 := blk_frozen BK276.out 2; have hfz16_3 := blk_frozen BK276.out 3; have hfz16_4 := blk_frozen BK276.out 4))
  refine bodyPost_ret (results_cell_row rfl _ _ gb276 38 #[.slice Ao11 t280.length co11, .int .u64 t288, .int .u64 t289, .int .i64 t285, .int .i64 t286] (0, 0) _ rfl (by (with_reducible repeat (first | refine blk_drewN ?_ _ | refine blk_drew ?_ | refine blk_alloc ?_ _)); refine blk_put (cs := #[.slice Ao11 t280.length co11, .int .u64 t288, .int .u64 t289, .int .i64 t285, .int .i64 0]) ?_ 4 _ rfl; (with_reducible repeat (first | refine blk_drewN ?_ _ | refine blk_drew ?_ | refine blk_alloc ?_ _)); refine blk_put (cs := #[.slice Ao11 t280.length co11, .int .u64 t288, .int .u64 t289, .int .i64 0, .int .i64 0]) ?_ 3 _ rfl; (with_reducible repeat (first | refine blk_drewN ?_ _ | refine blk_drew ?_ | refine blk_alloc ?_ _)); refine blk_put (cs := #[.slice Ao11 t280.length co11, .int .u64 t288, .int .u64 0, .int .i64 0, .int .i64 0]) ?_ 2 _ rfl; (with_reducible repeat (first | refine blk_drewN ?_ _ | refine blk_drew ?_ | refine blk_alloc ?_ _)); refine blk_put (cs := #[.slice Ao11 t280.length co11, .int .u64 0, .int .u64 0, .int .i64 0, .int .i64 0]) ?_ 1 _ rfl; (with_reducible repeat (first | refine blk_drewN ?_ _ | refine blk_drew ?_ | refine blk_alloc ?_ _)); refine blk_put (cs := #[.slice none 0 0, .int .u64 0, .int .u64 0, .int .i64 0, .int .i64 0]) ?_ 0 _ rfl; (with_reducible repeat (first | refine blk_drewN ?_ _ | refine blk_drew ?_ | refine blk_alloc ?_ _)); refine blk_far ?_ NB276_287.out _; (with_reducible repeat (first | refine blk_drewN ?_ _ | refine blk_drew ?_ | refine blk_alloc ?_ _)); refine blk_far ?_ NB276_287.out _; (with_reducible repeat (first | refine blk_drewN ?_ _ | refine blk_drew ?_ | refine blk_alloc ?_ _)); exact BK276.out) Tryd.underlying38 rfl (by kernel_rfl)) rfl ?_
  exact ⟨_, by first | rfl | (simp [errW_none, errW_some] <;> rfl) | (simp [*, errW_none, errW_some] <;> rfl), by (with_reducible repeat (first | apply Kd.R_alloc | apply Kd.R_drewN | apply Kd.R_drew)); exact Kd.R_mono (Kd.R_far (p := ⟨gb276, 4, none⟩) (Kd.R_far (p := ⟨gb276, 3, none⟩) (Kd.R_far (p := ⟨gb276, 2, none⟩) (Kd.R_far (p := ⟨gb276, 1, none⟩) (Kd.R_far (p := ⟨gb276, 0, none⟩) (Kd.R_far (p := ⟨gb287, 2, none⟩) (Kd.R_far (p := ⟨gb287, 1, none⟩) (Kd.R_types (Kd.R_types HO282.out BK287.out (by decide)) BK276.out (by decide)) (fun _ hk => hk.1.2) (.int .u64 t288)) (fun _ hk => hk.1.2) (.int .u64 t289)) (fun _ hk => hk.2) (.slice Ao11 t280.length co11)) (fun _ hk => hk.2) (.int .u64 t288)) (fun _ hk => hk.2) (.int .u64 t289)) (fun _ hk => hk.2) (.int .i64 t285)) (fun _ hk => hk.2) (.int .i64 t286)) (fun _ hk => trivial), by repeat (first | (with_reducible first | exact HB.out | apply below_alloc | apply pw_below_drewN | apply below_drew1 | refine below_set ?_ GE276.out | refine below_set ?_ GE287.out) | exact HB.out)⟩

end Go.Proofs.YthfgegaakfgjkaaDoor.PAll
