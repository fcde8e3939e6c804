-- Written by a program of this session (wip/tools)
import Derived.Test.YtielnphmcaecdaaDoorQCHPAllx0
import Derived.Test.YtielnphmcaecdaaDoorQCHPAllx5
import Derived.Test.YtielnphmcaecdaaDoorQCHPAllx15
import Derived.Test.YtielnphmcaecdaaDoorQCHExtFold
import Derived.Test.YtielnphmcaecdaaDoorQCHPAllx6
import Derived.Test.YtielnphmcaecdaaDoorQCHPAllx20
import Derived.Test.YtielnphmcaecdaaDoorQCHExtHashes
import Derived.Test.YtielnphmcaecdaaDoorQCHExtSame
namespace Go.Proofs.YtielnphmcaecdaaDoor.PAll
open Go.RowKit Go.Proofs.YtielnphmcaecdaaDoorW.PrintWords Go.Proofs.YtielnphmcaecdaaDoorW.PrintLast Go.Proofs.YtielnphmcaecdaaDoorW.PrintMore
attribute [local go_sem] max2_int min2_int max_two min_two max_three min_three max_four min_four   -- for this text's walks alone
set_option linter.unusedVariables false
set_option linter.unusedSimpArgs false
theorem field61_0 (x0 x1 x2 x3 x4 : Value) (W : World) : (Instr.field 61 (.agg #[x0, x1, x2, x3, x4]) 0).run Tryd.prog W = .ok x0 W := by kernel_rfl
def laws_FnConsistencyHashes.j0 : Nat → Int → Int → List (List Int) → List (List Int) → Bool → Bool → Int → Int → Int → Int → Int → Int → Option (Bool)
  | 0, _, _, _, _, _, _, _, _, _, _, _, _ => none
  | k + 1, x1, x2, x3, x9, x10, x38, x653000, x653001, x653002, x653003, x653004, x653005 => if x38 = true then (some (!x10)) else (if x10 = true then ((spec_ConsistencyProof.f k x1 x2).bind fun bt669 => ((spec_Folded.f k x653000 x653001 x653002 x653003 x653004 x653005 bt669.1 bt669.2.1 bt669.2.2.1 bt669.2.2.2.1 bt669.2.2.2.2 x3).bind fun t676 => ((spec_Same.f k x9 t676).bind fun t679 => (some t679)))) else (none))
def laws_FnConsistencyHashes.f (k : Nat) (a0_0 : Int) (a0_1 : Int) (a0_2 : Int) (a0_3 : Int) (a0_4 : Int) (a0_5 : Int) (a1 : Int) (a2 : Int) (l3 : List (List Int)) : Option (Bool) := (laws_zzFits2.f k l3).bind fun t653 => (if t653 = true then ((laws_logSmall.f k l3).bind fun t654 => (if t654 = true then ((laws_logCopy.f k l3).bind fun t655 => ((impl_ConsistencyHashes.f k a0_0 a0_1 a0_2 a0_3 a0_4 a0_5 a1 a2 t655).bind fun bt658 => (if a1 > a2 then (laws_FnConsistencyHashes.j0 k a1 a2 l3 bt658.1 bt658.2 true a0_0 a0_1 a0_2 a0_3 a0_4 a0_5) else ((spec_ConsistencyProof.f k a1 a2).bind fun bt662 => (laws_FnConsistencyHashes.j0 k a1 a2 l3 bt658.1 bt658.2 ((l3.length : Int) != (bt662.1.length : Int)) a0_0 a0_1 a0_2 a0_3 a0_4 a0_5))))) else (some true))) else (some true))
theorem laws_FnConsistencyHashes.mono_l : ∀ k, (∀ y0 y1 y2 y3 y4 y5 y6 y7 y8 y9 y10 y11, LeO (laws_FnConsistencyHashes.j0 k y0 y1 y2 y3 y4 y5 y6 y7 y8 y9 y10 y11) (laws_FnConsistencyHashes.j0 (k + 1) y0 y1 y2 y3 y4 y5 y6 y7 y8 y9 y10 y11))
  | 0 => fun _ _ _ _ _ _ _ _ _ _ _ _ r h => by simp [laws_FnConsistencyHashes.j0] at h
  | k + 1 => by
    have ih0 := laws_FnConsistencyHashes.mono_l k
    · intro y0 y1 y2 y3 y4 y5 y6 y7 y8 y9 y10 y11
      unfold laws_FnConsistencyHashes.j0
      repeat' first
      | (with_reducible exact ih0 _ _ _ _ _ _ _ _ _ _ _ _)
      | (with_reducible exact impl_ConsistencyHashes.mono _ _ _ _ _ _ _ _ _ _)
      | (with_reducible exact laws_logCopy.mono _ _)
      | (with_reducible exact laws_logSmall.mono _ _)
      | (with_reducible exact laws_zzFits2.mono _ _)
      | (with_reducible exact spec_ConsistencyProof.mono _ _ _)
      | (with_reducible exact spec_Folded.mono _ _ _ _ _ _ _ _ _ _ _ _ _)
      | (with_reducible exact spec_Same.mono _ _ _)
      | (with_reducible exact LeO.refl _)
      | (with_reducible exact LeO.none _)
      | (with_reducible refine LeO.ite ?_ ?_)
      | (with_reducible refine LeO.bind ?_ (fun _ => ?_))
      | exact ih0 _ _ _ _ _ _ _ _ _ _ _ _
      | exact impl_ConsistencyHashes.mono _ _ _ _ _ _ _ _ _ _
      | exact laws_logCopy.mono _ _
      | exact laws_logSmall.mono _ _
      | exact laws_zzFits2.mono _ _
      | exact spec_ConsistencyProof.mono _ _ _
      | exact spec_Folded.mono _ _ _ _ _ _ _ _ _ _ _ _ _
      | exact spec_Same.mono _ _ _
      | exact LeO.none _
      | refine LeO.ite ?_ ?_
      | refine LeO.bind ?_ (fun _ => ?_)
theorem laws_FnConsistencyHashes.mono : ∀ a0 a1 a2 a3 a4 a5 a6 a7 a8 k, LeO (laws_FnConsistencyHashes.f k a0 a1 a2 a3 a4 a5 a6 a7 a8) (laws_FnConsistencyHashes.f (k + 1) a0 a1 a2 a3 a4 a5 a6 a7 a8) := by
  intro a0 a1 a2 a3 a4 a5 a6 a7 a8 k
  have ih0 := laws_FnConsistencyHashes.mono_l k
  unfold laws_FnConsistencyHashes.f
  repeat' first
      | (with_reducible exact ih0 _ _ _ _ _ _ _ _ _ _ _ _)
      | (with_reducible exact impl_ConsistencyHashes.mono _ _ _ _ _ _ _ _ _ _)
      | (with_reducible exact laws_logCopy.mono _ _)
      | (with_reducible exact laws_logSmall.mono _ _)
      | (with_reducible exact laws_zzFits2.mono _ _)
      | (with_reducible exact spec_ConsistencyProof.mono _ _ _)
      | (with_reducible exact spec_Folded.mono _ _ _ _ _ _ _ _ _ _ _ _ _)
      | (with_reducible exact spec_Same.mono _ _ _)
      | (with_reducible exact LeO.refl _)
      | (with_reducible exact LeO.none _)
      | (with_reducible refine LeO.ite ?_ ?_)
      | (with_reducible refine LeO.bind ?_ (fun _ => ?_))
      | exact ih0 _ _ _ _ _ _ _ _ _ _ _ _
      | exact impl_ConsistencyHashes.mono _ _ _ _ _ _ _ _ _ _
      | exact laws_logCopy.mono _ _
      | exact laws_logSmall.mono _ _
      | exact laws_zzFits2.mono _ _
      | exact spec_ConsistencyProof.mono _ _ _
      | exact spec_Folded.mono _ _ _ _ _ _ _ _ _ _ _ _ _
      | exact spec_Same.mono _ _ _
      | exact LeO.none _
      | refine LeO.ite ?_ ?_
      | refine LeO.bind ?_ (fun _ => ?_)
def laws_FnConsistencyHashes.T5 : Bool × List (List Nat × List Nat) := (true, [([], []), ([], []), ([], []), ([], []), ([3], [3]), ([0, 1, 2, 4, 4], [0, 1, 2, 4]), ([5], [5]), ([6], [6]), ([6], [6]), ([7, 5, 0, 1, 2, 3, 4, 5, 6, 7], [7]), ([8, 9, 0, 1, 2, 3, 4, 5, 6, 7, 8, 9], [8])])
def laws_FnConsistencyHashes.B5 : List Nat := [0, 0, 0, 0, 8, 31, 63, 127, 127, 255, 1023]
theorem laws_FnConsistencyHashes.tab5 : rtab .any (opsOf Tryd.f6 5) = laws_FnConsistencyHashes.T5 := by kernel_rfl
theorem laws_FnConsistencyHashes.bits5 : waitsOk laws_FnConsistencyHashes.T5.2 laws_FnConsistencyHashes.B5 = true := by kernel_rfl
def laws_FnConsistencyHashes.T8 : Bool × List (List Nat × List Nat) := (true, [([], []), ([0], [0]), ([1], [1]), ([1], [1]), ([1], [1]), ([1], [1]), ([4, 5, 1, 1], [1, 4, 5]), ([1], [1]), ([3, 6, 7, 6, 1], [1, 3, 6, 7]), ([2, 8, 8, 1], [1, 2, 8]), ([1, 9], [1, 9]), ([10, 9, 0, 1, 2, 3, 4, 5, 6, 7, 8, 9, 10], [10])])
def laws_FnConsistencyHashes.B8 : List Nat := [0, 1, 3, 3, 3, 3, 51, 3, 251, 511, 1023, 2047]
theorem laws_FnConsistencyHashes.tab8 : rtab .any (opsOf Tryd.f6 8) = laws_FnConsistencyHashes.T8 := by kernel_rfl
theorem laws_FnConsistencyHashes.bits8 : waitsOk laws_FnConsistencyHashes.T8.2 laws_FnConsistencyHashes.B8 = true := by kernel_rfl
set_option maxHeartbeats 8000000 in
set_option maxRecDepth 100000 in
theorem laws_FnConsistencyHashes.calls (k : Nat) (a0_0 : Int) (a0_1 : Int) (a0_2 : Int) (a0_3 : Int) (a0_4 : Int) (a0_5 : Int) (a1 : Int) (a2 : Int) (A3 : Option Addr) (c3 : Nat) (l3 : List (List Int)) (r : Bool) (w : World) (hG : Glob w) (hr3 : Kd.C (Kd.slice 5 (Kd.int .u8)) w A3 l3.length l3) (hc3 : l3.length ≤ c3) (h : laws_FnConsistencyHashes.f k a0_0 a0_1 a0_2 a0_3 a0_4 a0_5 a1 a2 l3 = some r) :
    Calls Tryd.prog 6 #[.agg #[.int .i64 a0_0, .int .i64 a0_1, .int .i64 a0_2, .int .u64 a0_3, .int .u64 a0_4, .int .u64 a0_5], .int .u64 a1, .int .u64 a2, .slice A3 l3.length c3] w fun e w' => e = .returned (.bool r) ∧ Below w.heap.size w w' := by
  have hfld_ := field61_0
  have hu24 := Tryd.underlying24
  have HR3 := Aside0.mk hr3
  have HC3 := Aside0.mk hc3
  clear hr3 hc3
  have HB := Aside0.mk (Below.refl w.heap.size w)
  have H : ((laws_zzFits2.f k l3).bind fun t653 => (if t653 = true then ((laws_logSmall.f k l3).bind fun t654 => (if t654 = true then ((laws_logCopy.f k l3).bind fun t655 => ((impl_ConsistencyHashes.f k a0_0 a0_1 a0_2 a0_3 a0_4 a0_5 a1 a2 t655).bind fun bt658 => (if a1 > a2 then (laws_FnConsistencyHashes.j0 k a1 a2 l3 bt658.1 bt658.2 true a0_0 a0_1 a0_2 a0_3 a0_4 a0_5) else ((spec_ConsistencyProof.f k a1 a2).bind fun bt662 => (laws_FnConsistencyHashes.j0 k a1 a2 l3 bt658.1 bt658.2 ((l3.length : Int) != (bt662.1.length : Int)) a0_0 a0_1 a0_2 a0_3 a0_4 a0_5))))) else (some true))) else (some true))) = some r := h
  clear h
  replace H := Option.bind_eq_some_iff.mp H
  obtain ⟨t653, A50, H⟩ := H
  replace H : (if t653 = true then ((laws_logSmall.f k l3).bind fun t654 => (if t654 = true then ((laws_logCopy.f k l3).bind fun t655 => ((impl_ConsistencyHashes.f k a0_0 a0_1 a0_2 a0_3 a0_4 a0_5 a1 a2 t655).bind fun bt658 => (if a1 > a2 then (laws_FnConsistencyHashes.j0 k a1 a2 l3 bt658.1 bt658.2 true a0_0 a0_1 a0_2 a0_3 a0_4 a0_5) else ((spec_ConsistencyProof.f k a1 a2).bind fun bt662 => (laws_FnConsistencyHashes.j0 k a1 a2 l3 bt658.1 bt658.2 ((l3.length : Int) != (bt662.1.length : Int)) a0_0 a0_1 a0_2 a0_3 a0_4 a0_5))))) else (some true))) else (some true)) = some r := H
  have A5 := Aside0.mk A50
  clear A50
  by_cases c6 : t653 = true
  · subst c6
    have H1 : ((laws_logSmall.f k l3).bind fun t654 => (if t654 = true then ((laws_logCopy.f k l3).bind fun t655 => ((impl_ConsistencyHashes.f k a0_0 a0_1 a0_2 a0_3 a0_4 a0_5 a1 a2 t655).bind fun bt658 => (if a1 > a2 then (laws_FnConsistencyHashes.j0 k a1 a2 l3 bt658.1 bt658.2 true a0_0 a0_1 a0_2 a0_3 a0_4 a0_5) else ((spec_ConsistencyProof.f k a1 a2).bind fun bt662 => (laws_FnConsistencyHashes.j0 k a1 a2 l3 bt658.1 bt658.2 ((l3.length : Int) != (bt662.1.length : Int)) a0_0 a0_1 a0_2 a0_3 a0_4 a0_5))))) else (some true))) = some r := by rw [if_pos rfl] at H; exact H
    clear H
    have H := H1
    clear H1
    replace H := Option.bind_eq_some_iff.mp H
    obtain ⟨t654, A70, H⟩ := H
    replace H : (if t654 = true then ((laws_logCopy.f k l3).bind fun t655 => ((impl_ConsistencyHashes.f k a0_0 a0_1 a0_2 a0_3 a0_4 a0_5 a1 a2 t655).bind fun bt658 => (if a1 > a2 then (laws_FnConsistencyHashes.j0 k a1 a2 l3 bt658.1 bt658.2 true a0_0 a0_1 a0_2 a0_3 a0_4 a0_5) else ((spec_ConsistencyProof.f k a1 a2).bind fun bt662 => (laws_FnConsistencyHashes.j0 k a1 a2 l3 bt658.1 bt658.2 ((l3.length : Int) != (bt662.1.length : Int)) a0_0 a0_1 a0_2 a0_3 a0_4 a0_5))))) else (some true)) = some r := H
    have A7 := Aside0.mk A70
    clear A70
    by_cases c8 : t654 = true
    · subst c8
      have H1 : ((laws_logCopy.f k l3).bind fun t655 => ((impl_ConsistencyHashes.f k a0_0 a0_1 a0_2 a0_3 a0_4 a0_5 a1 a2 t655).bind fun bt658 => (if a1 > a2 then (laws_FnConsistencyHashes.j0 k a1 a2 l3 bt658.1 bt658.2 true a0_0 a0_1 a0_2 a0_3 a0_4 a0_5) else ((spec_ConsistencyProof.f k a1 a2).bind fun bt662 => (laws_FnConsistencyHashes.j0 k a1 a2 l3 bt658.1 bt658.2 ((l3.length : Int) != (bt662.1.length : Int)) a0_0 a0_1 a0_2 a0_3 a0_4 a0_5))))) = some r := by rw [if_pos rfl] at H; exact H
      clear H
      have H := H1
      clear H1
      replace H := Option.bind_eq_some_iff.mp H
      obtain ⟨t655, A90, H⟩ := H
      replace H : ((impl_ConsistencyHashes.f k a0_0 a0_1 a0_2 a0_3 a0_4 a0_5 a1 a2 t655).bind fun bt658 => (if a1 > a2 then (laws_FnConsistencyHashes.j0 k a1 a2 l3 bt658.1 bt658.2 true a0_0 a0_1 a0_2 a0_3 a0_4 a0_5) else ((spec_ConsistencyProof.f k a1 a2).bind fun bt662 => (laws_FnConsistencyHashes.j0 k a1 a2 l3 bt658.1 bt658.2 ((l3.length : Int) != (bt662.1.length : Int)) a0_0 a0_1 a0_2 a0_3 a0_4 a0_5)))) = some r := H
      have A9 := Aside0.mk A90
      clear A90
      replace H := Option.bind_eq_some_iff.mp H
      obtain ⟨⟨t658, t661⟩, A100, H⟩ := H
      replace H : (if a1 > a2 then (laws_FnConsistencyHashes.j0 k a1 a2 l3 t658 t661 true a0_0 a0_1 a0_2 a0_3 a0_4 a0_5) else ((spec_ConsistencyProof.f k a1 a2).bind fun bt662 => (laws_FnConsistencyHashes.j0 k a1 a2 l3 t658 t661 ((l3.length : Int) != (bt662.1.length : Int)) a0_0 a0_1 a0_2 a0_3 a0_4 a0_5))) = some r := H
      have A10 := Aside0.mk A100
      clear A100
      have HC11 := Aside0.mk H
      clear H
      go_enter Tryd.func6, Tryd.ntmps6
      try go_wp2_with (first | ((with_reducible refine gate_dst (N := 4) rfl ?_); (try (refine gate_guard (by rfl) ?_; dsimp only)); refine box_event ?hg (N := 4) ?hd (cs := #[.int .i64 a0_0, .int .i64 a0_1, .int .i64 a0_2, .int .u64 a0_3, .int .u64 a0_4, .int .u64 a0_5]) (t := 24) ?hr ?_; (case hd => rfl); (case hg => rfl); (case hr => first | (go_simp; done) | (go_simp; rfl)); intro gb652 hg w12 hbox hb; have n0_ := Aside0.mk (below_step (by repeat (first | (with_reducible first | exact HB.out | apply below_alloc | apply pw_below_drewN | apply below_drew1) | exact HB.out)) hb); have n1_ := Aside0.mk (hbox); have n2_ := Aside0.mk ((by rw [hg]; exact (below_size (by repeat (first | (with_reducible first | exact HB.out | apply below_alloc | apply pw_below_drewN | apply below_drew1) | exact HB.out))) : w.heap.size ≤ gb652)); have n3_ := Aside0.mk ((by rw [hg]; exact (below_size (by repeat (first | (with_reducible first | exact HB.out | apply below_alloc | apply pw_below_drewN | apply below_drew1) | exact HB.out))) : w.heap.size ≤ gb652)); clear HB; have HB := n0_; have BK652 := n1_; have GW652 := n2_; have GE652 := n3_; clear n0_ n1_ n2_ n3_; clear hb hbox hg) | ((with_reducible refine gate_callee (f := 12) rfl ?_); refine goesL_ (some 12) rfl rfl Tryd.func12 (by kernel_rfl) rfl #[.slice A3 l3.length c3] rfl (by (try simp only [List.map_toArray, List.map_cons, List.map_nil]); first | done | rfl | (simp only [List.length_drop, List.length_take]; rfl)) ?_; (with_reducible refine (laws_zzFits2.calls k _ _ l3 true _ ?side1 ?side2 A5.out).mono ?_); (case side1 => repeat (first | exact (Kd.C_below HR3.out HB.out) | (with_reducible refine Kd.C_alloc ?_ _) | (with_reducible refine Kd.C_drewN ?_ _) | (with_reducible refine Kd.C_drew ?_))); (case side2 => exact HC3.out); rintro e w' ⟨rfl, ⟨nd, rfl⟩⟩; refine ⟨_, rfl, ?_⟩) | ((with_reducible refine gate_callee (f := 13) rfl ?_); refine goesL_ (some 15) rfl rfl Tryd.func13 (by kernel_rfl) rfl #[.slice A3 l3.length c3] rfl (by (try simp only [List.map_toArray, List.map_cons, List.map_nil]); first | done | rfl | (simp only [List.length_drop, List.length_take]; rfl)) ?_; (with_reducible refine (laws_logSmall.calls k _ _ l3 true _ ?side1 ?side2 A7.out).mono ?_); (case side1 => repeat (first | exact (Kd.C_below HR3.out (by repeat (first | (with_reducible first | exact HB.out | apply below_alloc | apply pw_below_drewN | apply below_drew1 | refine below_set ?_ GE652.out) | exact HB.out))) | (with_reducible refine Kd.C_alloc ?_ _) | (with_reducible refine Kd.C_drewN ?_ _) | (with_reducible refine Kd.C_drew ?_))); (case side2 => exact HC3.out); rintro e w' ⟨rfl, ⟨nd, rfl⟩⟩; refine ⟨_, rfl, ?_⟩))
      (try (rw [drewN_self w12]; generalize hq_ : World.drewN w12 _ = w12; have n0_ : Aside0 (w12.heap[gb652]? = some (.cells #[.int .i64 a0_0, .int .i64 a0_1, .int .i64 a0_2, .int .u64 a0_3, .int .u64 a0_4, .int .u64 a0_5] 24 (0, 0))) := ⟨by rw [← hq_]; exact (by (with_reducible repeat (first | refine blk_drewN ?_ _ | refine blk_drew ?_ | refine blk_alloc ?_ _)); exact BK652.out)⟩; have n1_ : Aside0 (Below w.heap.size w w12) := ⟨by rw [← hq_]; exact (by repeat (first | (with_reducible first | exact HB.out | apply below_alloc | apply pw_below_drewN | apply below_drew1 | refine below_set ?_ GE652.out) | exact HB.out))⟩; clear BK652 HB hq_; have BK652 := n0_; have HB := n1_; clear n0_ n1_))
      have n0_ := Aside0.mk (blk_drew BK652.out)
      have n1_ := Aside0.mk (below_drew1 HB.out)
      clear BK652
      clear HB
      have BK652 := n0_
      have HB := n1_
      clear n0_ n1_
      refine start_ (n := 11) (S := fun w' => w'.cell? ⟨gb652, 0, none⟩ = some (.int .i64 a0_0) ∧ w'.cell? ⟨gb652, 1, none⟩ = some (.int .i64 a0_1) ∧ w'.cell? ⟨gb652, 2, none⟩ = some (.int .i64 a0_2) ∧ w'.cell? ⟨gb652, 3, none⟩ = some (.int .u64 a0_3) ∧ w'.cell? ⟨gb652, 4, none⟩ = some (.int .u64 a0_4) ∧ w'.cell? ⟨gb652, 5, none⟩ = some (.int .u64 a0_5)) (ds := []) #[false, false, false, false, false, false, false, false, false, false, false] (by kernel_rfl) rfl rfl ⟨(blk_cell BK652.out 0).trans rfl, (blk_cell BK652.out 1).trans rfl, (blk_cell BK652.out 2).trans rfl, (blk_cell BK652.out 3).trans rfl, (blk_cell BK652.out 4).trans rfl, (blk_cell BK652.out 5).trans rfl⟩ (fun hHeld => ?_); refine with_tabW laws_FnConsistencyHashes.tab5 laws_FnConsistencyHashes.bits5 (fun HT_ HW_ => ?_)
      generalize w12.drew = w13 at BK652 HB hHeld ⊢
      refine pure_ (i := 1) (N := some 19) (v := ?_) (a' := ?_) #[false, true, false, false, false, false, false, false, false, false, false] rfl rfl (any_of HT_.out (by kernel_rfl)) (fun _ _ _ h => h) (Or.inl ⟨by rfl, ?_⟩) ?_ ?_
      rotate_left
      · intro w'
        go_simp
        with_reducible rfl
      rotate_left
      · simp only [Act.put, List.setIfInBounds_toArray, List.set_cons_zero, List.set_cons_succ, i64_w, i32_w]
        rfl
      refine pure_ (i := 2) (N := some 20) (v := ?_) (a' := ?_) #[false, true, true, false, false, false, false, false, false, false, false] rfl rfl (any_of HT_.out (by kernel_rfl)) (fun _ _ _ h => h) (Or.inl ⟨by rfl, ?_⟩) ?_ ?_
      rotate_left
      · intro w'
        go_simp
        with_reducible rfl
      rotate_left
      · simp only [Act.put, List.setIfInBounds_toArray, List.set_cons_zero, List.set_cons_succ, i64_w, i32_w]
        rfl
      refine pure_ (i := 3) (N := some 21) (v := ?_) (a' := ?_) #[false, true, true, true, false, false, false, false, false, false, false] rfl rfl (any_of HT_.out (by kernel_rfl)) (fun _ _ _ h => h) (Or.inl ⟨by rfl, ?_⟩) ?_ ?_
      rotate_left
      · intro w'
        go_simp
        with_reducible rfl
      rotate_left
      · simp only [Act.put, List.setIfInBounds_toArray, List.set_cons_zero, List.set_cons_succ, i64_w, i32_w]
        rfl
      refine take_ (i := 0) (N := some 18) (v := ?_) (a' := ?_) #[true, true, true, true, false, false, false, false, false, false, false] rfl rfl (take_ofW HT_.out HW_.out (by kernel_rfl)) (fun _ _ _ h => h) (Or.inl ⟨by rfl, ?_⟩) hHeld ?_ ?_
      rotate_left
      · rintro w' ⟨s0, s1, s2, s3, s4, s5⟩
        go_simp
        with_reducible rfl
      rotate_left
      · simp only [Act.put, List.setIfInBounds_toArray, List.set_cons_zero, List.set_cons_succ, i64_w, i32_w]
        rfl
      refine one_ (i := 4) (N := some 22) #[true, true, true, true, true, false, false, false, false, false, false] rfl rfl (one_of HT_.out (by kernel_rfl)) (by decide) (fun K hK => ?_)
      refine goes_ Tryd.func27 (by kernel_rfl) rfl #[.slice A3 l3.length c3] (by rfl) rfl rfl (by (try simp only [List.map_toArray, List.map_cons, List.map_nil]); first | done | rfl | (simp only [List.length_drop, List.length_take]; rfl)) ?_
      with_reducible refine (laws_logCopy.calls k _ _ l3 t655 _ ?side1 ?side2 A9.out).mono ?_
      (case side1 => repeat (first | exact (Kd.C_below HR3.out HB.out) | (with_reducible refine Kd.C_alloc ?_ _) | (with_reducible refine Kd.C_drewN ?_ _) | (with_reducible refine Kd.C_drew ?_)))
      (case side2 => exact HC3.out)
      rintro e w14 ⟨v656, rfl, ho0, hb⟩
      refine ⟨_, rfl, ?_⟩
      have n0_ := Aside0.mk (Kd.S_lower ho0 (below_size (by repeat (first | (with_reducible first | exact HB.out | apply below_alloc | apply pw_below_drewN | apply below_drew1 | refine below_set ?_ GE652.out) | exact HB.out))))
      have n1_ := Aside0.mk (blk_below (g := gb652) (o := .cells #[.int .i64 a0_0, .int .i64 a0_1, .int .i64 a0_2, .int .u64 a0_3, .int .u64 a0_4, .int .u64 a0_5] 24 (0, 0)) (by (with_reducible repeat (first | refine blk_drewN ?_ _ | refine blk_drew ?_ | refine blk_alloc ?_ _)); exact BK652.out) hb)
      have n2_ := Aside0.mk (below_step (by repeat (first | (with_reducible first | exact HB.out | apply below_alloc | apply pw_below_drewN | apply below_drew1 | refine below_set ?_ GE652.out) | exact HB.out)) hb)
      clear BK652
      clear HB
      have HO657 := n0_
      have BK652 := n1_
      have HB := n2_
      clear n0_ n1_ n2_
      (try clear hb)
      (try clear hb2)
      (try clear hk)
      (try clear hi)
      (try clear ho0)
      obtain ⟨Ao15, co15, eo15⟩ := Kd.S_slice HO657.out
      (first | subst eo15 | (injection eo15 with f1_ f2_ f3_; have f4_ := f1_.symm; have f5_ := f3_.symm; clear f1_ f2_ f3_; subst f4_; subst f5_))
      refine hK.out _ _ ⟨(blk_cell BK652.out 0).trans rfl, (blk_cell BK652.out 1).trans rfl, (blk_cell BK652.out 2).trans rfl, (blk_cell BK652.out 3).trans rfl, (blk_cell BK652.out 4).trans rfl, (blk_cell BK652.out 5).trans rfl⟩ (fun hHeld => ?_)
      clear hK K
      refine norm_ (a' := ?_) ?_ ?_
      rotate_left
      · show Act.put _ (some 22) _ = _
        simp only [Act.put, List.setIfInBounds_toArray, List.set_cons_zero, List.set_cons_succ, i64_w, i32_w]
        rfl
      refine one_ (i := 5) (N := some 23) #[true, true, true, true, true, true, false, false, false, false, false] rfl rfl (one_of HT_.out (by kernel_rfl)) (by decide) (fun K hK => ?_)
      refine goes_ Tryd.func26 (by kernel_rfl) rfl #[.agg #[.int .i64 a0_0, .int .i64 a0_1, .int .i64 a0_2, .int .u64 a0_3, .int .u64 a0_4, .int .u64 a0_5], .int .u64 a1, .int .u64 a2, .slice Ao15 t655.length co15] (by rfl) rfl rfl (by (try simp only [List.map_toArray, List.map_cons, List.map_nil]); first | done | rfl | (simp only [List.length_drop, List.length_take]; rfl)) ?_
      with_reducible refine (impl_ConsistencyHashes.calls k a0_0 a0_1 a0_2 a0_3 a0_4 a0_5 a1 a2 _ _ t655 t658 t661 _ ?side3 ?side1 ?side2 A10.out).mono ?_
      (case side1 => repeat (first | exact (Kd.S_reads' HO657.out).2.2 | (with_reducible refine Kd.C_alloc ?_ _) | (with_reducible refine Kd.C_drewN ?_ _) | (with_reducible refine Kd.C_drew ?_)))
      (case side2 => exact (Kd.S_reads' HO657.out).2.1)
      (case side3 => exact Glob.below hG (by repeat (first | (with_reducible first | exact HB.out | apply below_alloc | apply pw_below_drewN | apply below_drew1 | refine below_set ?_ GE652.out) | exact HB.out)))
      rintro e w16 ⟨v659, rfl, ho0, hb⟩
      refine ⟨_, rfl, ?_⟩
      have n0_ := Aside0.mk (Kd.S_elder' (by (with_reducible repeat (first | apply Kd.S_alloc | apply Kd.S_drewN | apply Kd.S_drew)); exact HO657.out) (Kd.S_base ho0) hb)
      have n1_ := Aside0.mk (Kd.S_lower (Kd.S_new' ho0 (Kd.S_lt (by (with_reducible repeat (first | apply Kd.S_alloc | apply Kd.S_drewN | apply Kd.S_drew)); exact HO657.out))) (below_size (by repeat (first | (with_reducible first | exact HB.out | apply below_alloc | apply pw_below_drewN | apply below_drew1 | refine below_set ?_ GE652.out) | exact HB.out))))
      have n2_ := Aside0.mk (blk_below (g := gb652) (o := .cells #[.int .i64 a0_0, .int .i64 a0_1, .int .i64 a0_2, .int .u64 a0_3, .int .u64 a0_4, .int .u64 a0_5] 24 (0, 0)) (by (with_reducible repeat (first | refine blk_drewN ?_ _ | refine blk_drew ?_ | refine blk_alloc ?_ _)); exact BK652.out) hb)
      have n3_ := Aside0.mk (below_step (by repeat (first | (with_reducible first | exact HB.out | apply below_alloc | apply pw_below_drewN | apply below_drew1 | refine below_set ?_ GE652.out) | exact HB.out)) hb)
      clear HO657
      clear BK652
      clear HB
      have HO657 := n0_
      have HO660 := n1_
      have BK652 := n2_
      have HB := n3_
      clear n0_ n1_ n2_ n3_
      (try clear hb)
      (try clear hb2)
      (try clear hk)
      (try clear hi)
      (try clear ho0)
      refine hK.out _ _ ⟨(blk_cell BK652.out 0).trans rfl, (blk_cell BK652.out 1).trans rfl, (blk_cell BK652.out 2).trans rfl, (blk_cell BK652.out 3).trans rfl, (blk_cell BK652.out 4).trans rfl, (blk_cell BK652.out 5).trans rfl⟩ (fun hHeld => ?_)
      clear hK K
      refine norm_ (a' := ?_) ?_ ?_
      rotate_left
      · show Act.put _ (some 23) _ = _
        simp only [Act.put, List.setIfInBounds_toArray, List.set_cons_zero, List.set_cons_succ, i64_w, i32_w]
        rfl
      refine pure_ (i := 6) (N := some 17) (v := ?_) (a' := ?_) #[true, true, true, true, true, true, true, false, false, false, false] rfl rfl (any_of HT_.out (by kernel_rfl)) (fun _ _ _ h => h) (Or.inl ⟨by rfl, ?_⟩) ?_ ?_
      rotate_left
      · intro w'
        go_simp
        with_reducible rfl
      rotate_left
      · simp only [Act.put, List.setIfInBounds_toArray, List.set_cons_zero, List.set_cons_succ, i64_w, i32_w]
        rfl
      refine pure_ (i := 7) (N := some 24) (v := ?_) (a' := ?_) #[true, true, true, true, true, true, true, true, false, false, false] rfl rfl (any_of HT_.out (by kernel_rfl)) (fun _ _ _ h => h) (Or.inl ⟨by rfl, ?_⟩) ?_ ?_
      rotate_left
      · intro w'
        go_simp
        with_reducible rfl
      rotate_left
      · simp only [Act.put, List.setIfInBounds_toArray, List.set_cons_zero, List.set_cons_succ, i64_w, i32_w]
        rfl
      refine pure_ (i := 8) (N := some 25) (v := ?_) (a' := ?_) #[true, true, true, true, true, true, true, true, true, false, false] rfl rfl (any_of HT_.out (by kernel_rfl)) (fun _ _ _ h => h) (Or.inl ⟨by rfl, ?_⟩) ?_ ?_
      rotate_left
      · intro w'
        go_simp
        with_reducible rfl
      rotate_left
      · simp only [Act.put, List.setIfInBounds_toArray, List.set_cons_zero, List.set_cons_succ, i64_w, i32_w]
        rfl
      refine pure_ (i := 9) (N := some 9) (v := ?_) (a' := ?_) #[true, true, true, true, true, true, true, true, true, true, false] rfl rfl (any_of HT_.out (by kernel_rfl)) (fun _ _ _ h => h) (Or.inl ⟨by rfl, ?_⟩) ?_ ?_
      rotate_left
      · intro w'
        go_simp
        with_reducible rfl
      rotate_left
      · simp only [Act.put, List.setIfInBounds_toArray, List.set_cons_zero, List.set_cons_succ, i64_w, i32_w]
        rfl
      refine pure_ (i := 10) (N := some 10) (v := ?_) (a' := ?_) #[true, true, true, true, true, true, true, true, true, true, true] rfl rfl (any_of HT_.out (by kernel_rfl)) (fun _ _ _ h => h) (Or.inl ⟨by rfl, ?_⟩) ?_ ?_
      rotate_left
      · intro w'
        go_simp
        with_reducible rfl
      rotate_left
      · simp only [Act.put, List.setIfInBounds_toArray, List.set_cons_zero, List.set_cons_succ, i64_w, i32_w]
        rfl
      refine done_ (done_of HT_.out (by kernel_rfl)) ?_
      go_upto_region 6 with (fail)
      go_cut [38] (fun v38 wc => ∃ (kq : Nat) (x38_10 : Bool), v38 = .bool x38_10 ∧ Aside0 (laws_FnConsistencyHashes.j0 kq a1 a2 l3 t658 t661 x38_10 a0_0 a0_1 a0_2 a0_3 a0_4 a0_5 = some r) ∧ Aside0 (kq ≤ k) ∧ Aside0 (Kd.S (Kd.slice 5 (Kd.int .u8)) 27 wc w.heap.size (fun _ => True) v659 t658) ∧ Aside0 (wc.heap[gb652]? = some (.cells #[.int .i64 a0_0, .int .i64 a0_1, .int .i64 a0_2, .int .u64 a0_3, .int .u64 a0_4, .int .u64 a0_5] 24 (0, 0))) ∧ Aside0 (Below w.heap.size w wc))
      case first =>
        have H := HC11.out
        clear HC11
        by_cases c17 : a1 > a2
        · rw [if_pos c17] at H
          have c17b0 : decide (a2 < a1) = true := decide_eq_true c17
          clear c17
          (first | rw [c17b0] | (simp only [i64_w, i32_w]; rw [c17b0]) | skip)
          have H' := Aside0.mk H
          clear H
          go_wp2
          go_meet
          case rel => exact ⟨_, (true), (by first | rfl | (simp; done) | (simp [*]; done)), H', ⟨by first | omega | exact Nat.le_refl _⟩, ⟨by (with_reducible repeat (first | apply Kd.S_alloc | apply Kd.S_drewN | apply Kd.S_drew)); exact Kd.S_mono HO660.out (fun _ hk => trivial)⟩, ⟨by (with_reducible repeat (first | refine blk_drewN ?_ _ | refine blk_drew ?_ | refine blk_alloc ?_ _)); exact BK652.out⟩, ⟨by repeat (first | (with_reducible first | exact HB.out | apply below_alloc | apply pw_below_drewN | apply below_drew1 | refine below_set ?_ GE652.out) | exact HB.out)⟩⟩
        · rw [if_neg c17] at H
          have c17b0 : decide (a2 < a1) = false := decide_eq_false c17
          clear c17
          (first | rw [c17b0] | (simp only [i64_w, i32_w]; rw [c17b0]) | skip)
          replace H := Option.bind_eq_some_iff.mp H
          obtain ⟨⟨t662, t665, t666, t667, t668⟩, A180, H⟩ := H
          replace H : (laws_FnConsistencyHashes.j0 k a1 a2 l3 t658 t661 ((l3.length : Int) != (t662.length : Int)) a0_0 a0_1 a0_2 a0_3 a0_4 a0_5) = some r := H
          have A18 := Aside0.mk A180
          clear A180
          have H' := Aside0.mk H
          clear H
          go_wp2_with (first | (go_at_call 28; (with_reducible refine (spec_ConsistencyProof.calls k a1 a2 t662 t665 t666 t667 t668 _ A18.out).mono ?_); rintro e w19 ⟨v663, rfl, ho0, hb⟩; have n0_ := Aside0.mk (Kd.S_below (by (with_reducible repeat (first | apply Kd.S_alloc | apply Kd.S_drewN | apply Kd.S_drew)); exact HO657.out) hb); have n1_ := Aside0.mk (Kd.S_below (by (with_reducible repeat (first | apply Kd.S_alloc | apply Kd.S_drewN | apply Kd.S_drew)); exact HO660.out) hb); have n2_ := Aside0.mk (Kd.R_lower ho0 (below_size (by repeat (first | (with_reducible first | exact HB.out | apply below_alloc | apply pw_below_drewN | apply below_drew1 | refine below_set ?_ GE652.out) | exact HB.out)))); have n3_ := Aside0.mk (blk_below (g := gb652) (o := .cells #[.int .i64 a0_0, .int .i64 a0_1, .int .i64 a0_2, .int .u64 a0_3, .int .u64 a0_4, .int .u64 a0_5] 24 (0, 0)) (by (with_reducible repeat (first | refine blk_drewN ?_ _ | refine blk_drew ?_ | refine blk_alloc ?_ _)); exact BK652.out) hb); have n4_ := Aside0.mk (below_step (by repeat (first | (with_reducible first | exact HB.out | apply below_alloc | apply pw_below_drewN | apply below_drew1 | refine below_set ?_ GE652.out) | exact HB.out)) hb); clear HO657; clear HO660; clear BK652; clear HB; have HO657 := n0_; have HO660 := n1_; have HO664 := n2_; have BK652 := n3_; have HB := n4_; clear n0_ n1_ n2_ n3_ n4_; (try clear hb); (try clear hb2); (try clear hk); (try clear hi); (try clear ho0); obtain ⟨Ao20, co20, eo20⟩ := Kd.R_slice HO664.out; subst eo20))
          go_meet
          case rel => exact ⟨_, (((l3.length : Int) != (t662.length : Int))), (by first | rfl | (simp; done) | (simp [*]; done)), H', ⟨by first | omega | exact Nat.le_refl _⟩, ⟨by (with_reducible repeat (first | apply Kd.S_alloc | apply Kd.S_drewN | apply Kd.S_drew)); exact Kd.S_mono HO660.out (fun _ hk => trivial)⟩, ⟨by (with_reducible repeat (first | refine blk_drewN ?_ _ | refine blk_drew ?_ | refine blk_alloc ?_ _)); exact BK652.out⟩, ⟨by repeat (first | (with_reducible first | exact HB.out | apply below_alloc | apply pw_below_drewN | apply below_drew1 | refine below_set ?_ GE652.out) | exact HB.out)⟩⟩
      case rest =>
        clear HC11
        try clear c1
        try clear c2
        try clear p2
        try clear c3
        try clear c6
        try clear c8
        try clear c12
        try clear c13
        try clear c17
        try clear c17b0
        obtain ⟨kq, x38_10, rfl, HA, HJ10, HO_9, BK652, HB⟩ := hcut
        cases kq with
        | zero => exact absurd HA.out (by simp [laws_FnConsistencyHashes.j0])
        | succ kj10 =>
          have H := HA.out
          clear HA
          simp only [laws_FnConsistencyHashes.j0] at H
          by_cases c21 : x38_10 = true
          · subst c21
            have H1 : (some (!t661)) = some r := by rw [if_pos rfl] at H; exact H
            clear H
            have H := H1
            clear H1
            obtain rfl := Option.some.inj H
            go_wp2
            go_ret
            exact ⟨by first | rfl | (simp [errW_none, errW_some] <;> rfl) | (simp [*, errW_none, errW_some] <;> rfl), by repeat (first | (with_reducible first | exact HB.out | apply below_alloc | apply pw_below_drewN | apply below_drew1 | refine below_set ?_ GE652.out) | exact HB.out)⟩
          · replace c21 := Bool.eq_false_iff.mpr c21
            subst c21
            have H1 : (if t661 = true then ((spec_ConsistencyProof.f kj10 a1 a2).bind fun bt669 => ((spec_Folded.f kj10 a0_0 a0_1 a0_2 a0_3 a0_4 a0_5 bt669.1 bt669.2.1 bt669.2.2.1 bt669.2.2.2.1 bt669.2.2.2.2 l3).bind fun t676 => ((spec_Same.f kj10 t658 t676).bind fun t679 => (some t679)))) else (none)) = some r := by rw [if_neg (show ¬ (false = true) by decide)] at H; exact H
            clear H
            have H := H1
            clear H1
            by_cases c22 : t661 = true
            · subst c22
              have H1 : ((spec_ConsistencyProof.f kj10 a1 a2).bind fun bt669 => ((spec_Folded.f kj10 a0_0 a0_1 a0_2 a0_3 a0_4 a0_5 bt669.1 bt669.2.1 bt669.2.2.1 bt669.2.2.2.1 bt669.2.2.2.2 l3).bind fun t676 => ((spec_Same.f kj10 t658 t676).bind fun t679 => (some t679)))) = some r := by rw [if_pos rfl] at H; exact H
              clear H
              have H := H1
              clear H1
              replace H := Option.bind_eq_some_iff.mp H
              obtain ⟨⟨t669, t672, t673, t674, t675⟩, A230, H⟩ := H
              replace H : ((spec_Folded.f kj10 a0_0 a0_1 a0_2 a0_3 a0_4 a0_5 t669 t672 t673 t674 t675 l3).bind fun t676 => ((spec_Same.f kj10 t658 t676).bind fun t679 => (some t679))) = some r := H
              have A23 := Aside0.mk A230
              clear A230
              replace H := Option.bind_eq_some_iff.mp H
              obtain ⟨t676, A240, H⟩ := H
              replace H : ((spec_Same.f kj10 t658 t676).bind fun t679 => (some t679)) = some r := H
              have A24 := Aside0.mk A240
              clear A240
              replace H := Option.bind_eq_some_iff.mp H
              obtain ⟨t679, A250, H⟩ := H
              replace H : (some t679) = some r := H
              have A25 := Aside0.mk A250
              clear A250
              obtain rfl := Option.some.inj H
              try go_wp2
              (try (rw [drewN_self wc]; generalize hq_ : World.drewN wc _ = wc; have n0_ : Aside0 (Kd.S (Kd.slice 5 (Kd.int .u8)) 27 wc w.heap.size (fun _ => True) v659 t658) := ⟨by rw [← hq_]; exact (by (with_reducible repeat (first | apply Kd.S_alloc | apply Kd.S_drewN | apply Kd.S_drew)); exact HO_9.out)⟩; have n1_ : Aside0 (wc.heap[gb652]? = some (.cells #[.int .i64 a0_0, .int .i64 a0_1, .int .i64 a0_2, .int .u64 a0_3, .int .u64 a0_4, .int .u64 a0_5] 24 (0, 0))) := ⟨by rw [← hq_]; exact (by (with_reducible repeat (first | refine blk_drewN ?_ _ | refine blk_drew ?_ | refine blk_alloc ?_ _)); exact BK652.out)⟩; have n2_ : Aside0 (Below w.heap.size w wc) := ⟨by rw [← hq_]; exact (by repeat (first | (with_reducible first | exact HB.out | apply below_alloc | apply pw_below_drewN | apply below_drew1 | refine below_set ?_ GE652.out) | exact HB.out))⟩; clear HO_9 BK652 HB hq_; have HO_9 := n0_; have BK652 := n1_; have HB := n2_; clear n0_ n1_ n2_))
              have n0_ := Aside0.mk (Kd.S_drew HO_9.out)
              have n1_ := Aside0.mk (blk_drew BK652.out)
              have n2_ := Aside0.mk (below_drew1 HB.out)
              clear HO_9
              clear BK652
              clear HB
              have HO_9 := n0_
              have BK652 := n1_
              have HB := n2_
              clear n0_ n1_ n2_
              refine start_ (n := 12) (S := fun w' => w'.cell? ⟨gb652, 0, none⟩ = some (.int .i64 a0_0) ∧ w'.cell? ⟨gb652, 1, none⟩ = some (.int .i64 a0_1) ∧ w'.cell? ⟨gb652, 2, none⟩ = some (.int .i64 a0_2) ∧ w'.cell? ⟨gb652, 3, none⟩ = some (.int .u64 a0_3) ∧ w'.cell? ⟨gb652, 4, none⟩ = some (.int .u64 a0_4) ∧ w'.cell? ⟨gb652, 5, none⟩ = some (.int .u64 a0_5)) (ds := []) #[false, false, false, false, false, false, false, false, false, false, false, false] (by kernel_rfl) rfl rfl ⟨(blk_cell BK652.out 0).trans rfl, (blk_cell BK652.out 1).trans rfl, (blk_cell BK652.out 2).trans rfl, (blk_cell BK652.out 3).trans rfl, (blk_cell BK652.out 4).trans rfl, (blk_cell BK652.out 5).trans rfl⟩ (fun hHeld => ?_); refine with_tabW laws_FnConsistencyHashes.tab8 laws_FnConsistencyHashes.bits8 (fun HT_ HW_ => ?_)
              generalize wc.drew = w26 at HO_9 BK652 HB hHeld ⊢
              refine pure_ (i := 0) (N := some 41) (v := ?_) (a' := ?_) #[true, false, false, false, false, false, false, false, false, false, false, false] rfl rfl (any_of HT_.out (by kernel_rfl)) (fun _ _ _ h => h) (Or.inl ⟨by rfl, ?_⟩) ?_ ?_
              rotate_left
              · intro w'
                go_simp
                with_reducible rfl
              rotate_left
              · simp only [Act.put, List.setIfInBounds_toArray, List.set_cons_zero, List.set_cons_succ, i64_w, i32_w]
                rfl
              refine pure_ (i := 1) (N := some 42) (v := ?_) (a' := ?_) #[true, true, false, false, false, false, false, false, false, false, false, false] rfl rfl (any_of HT_.out (by kernel_rfl)) (fun _ _ _ h => h) (Or.inl ⟨by rfl, ?_⟩) ?_ ?_
              rotate_left
              · intro w'
                go_simp
                with_reducible rfl
              rotate_left
              · simp only [Act.put, List.setIfInBounds_toArray, List.set_cons_zero, List.set_cons_succ, i64_w, i32_w]
                rfl
              refine pure_ (i := 2) (N := some 43) (v := ?_) (a' := ?_) #[true, true, true, false, false, false, false, false, false, false, false, false] rfl rfl (any_of HT_.out (by kernel_rfl)) (fun _ _ _ h => h) (Or.inl ⟨by rfl, ?_⟩) ?_ ?_
              rotate_left
              · intro w'
                go_simp
                with_reducible rfl
              rotate_left
              · simp only [Act.put, List.setIfInBounds_toArray, List.set_cons_zero, List.set_cons_succ, i64_w, i32_w]
                rfl
              refine pure_ (i := 4) (N := some 45) (v := ?_) (a' := ?_) #[true, true, true, false, true, false, false, false, false, false, false, false] rfl rfl (any_of HT_.out (by kernel_rfl)) (fun _ _ _ h => h) (Or.inl ⟨by rfl, ?_⟩) ?_ ?_
              rotate_left
              · intro w'
                go_simp
                with_reducible rfl
              rotate_left
              · simp only [Act.put, List.setIfInBounds_toArray, List.set_cons_zero, List.set_cons_succ, i64_w, i32_w]
                rfl
              refine pure_ (i := 5) (N := some 46) (v := ?_) (a' := ?_) #[true, true, true, false, true, true, false, false, false, false, false, false] rfl rfl (any_of HT_.out (by kernel_rfl)) (fun _ _ _ h => h) (Or.inl ⟨by rfl, ?_⟩) ?_ ?_
              rotate_left
              · intro w'
                go_simp
                with_reducible rfl
              rotate_left
              · simp only [Act.put, List.setIfInBounds_toArray, List.set_cons_zero, List.set_cons_succ, i64_w, i32_w]
                rfl
              refine pure_ (i := 7) (N := some 48) (v := ?_) (a' := ?_) #[true, true, true, false, true, true, false, true, false, false, false, false] rfl rfl (any_of HT_.out (by kernel_rfl)) (fun _ _ _ h => h) (Or.inl ⟨by rfl, ?_⟩) ?_ ?_
              rotate_left
              · intro w'
                go_simp
                with_reducible rfl
              rotate_left
              · simp only [Act.put, List.setIfInBounds_toArray, List.set_cons_zero, List.set_cons_succ, i64_w, i32_w]
                rfl
              refine take_ (i := 3) (N := some 44) (v := ?_) (a' := ?_) #[true, true, true, true, true, true, false, true, false, false, false, false] rfl rfl (take_ofW HT_.out HW_.out (by kernel_rfl)) (fun _ _ _ h => h) (Or.inl ⟨by rfl, ?_⟩) hHeld ?_ ?_
              rotate_left
              · rintro w' ⟨s0, s1, s2, s3, s4, s5⟩
                go_simp
                with_reducible rfl
              rotate_left
              · simp only [Act.put, List.setIfInBounds_toArray, List.set_cons_zero, List.set_cons_succ, i64_w, i32_w]
                rfl
              refine one_ (i := 6) (N := some 47) #[true, true, true, true, true, true, true, true, false, false, false, false] rfl rfl (one_of HT_.out (by kernel_rfl)) (by decide) (fun K hK => ?_)
              refine goes_ Tryd.func28 (by kernel_rfl) rfl #[.int .u64 a1, .int .u64 a2] (by rfl) rfl rfl (by (try simp only [List.map_toArray, List.map_cons, List.map_nil]); first | done | rfl | (simp only [List.length_drop, List.length_take]; rfl)) ?_
              with_reducible refine (spec_ConsistencyProof.calls kj10 a1 a2 t669 t672 t673 t674 t675 _ A23.out).mono ?_
              rintro e w27 ⟨v670, rfl, ho0, hb⟩
              refine ⟨_, rfl, ?_⟩
              have n0_ := Aside0.mk (Kd.S_below (by (with_reducible repeat (first | apply Kd.S_alloc | apply Kd.S_drewN | apply Kd.S_drew)); exact HO_9.out) hb)
              have n1_ := Aside0.mk (Kd.R_lower ho0 (below_size (by repeat (first | (with_reducible first | exact HB.out | apply below_alloc | apply pw_below_drewN | apply below_drew1 | refine below_set ?_ GE652.out) | exact HB.out))))
              have n2_ := Aside0.mk (blk_below (g := gb652) (o := .cells #[.int .i64 a0_0, .int .i64 a0_1, .int .i64 a0_2, .int .u64 a0_3, .int .u64 a0_4, .int .u64 a0_5] 24 (0, 0)) (by (with_reducible repeat (first | refine blk_drewN ?_ _ | refine blk_drew ?_ | refine blk_alloc ?_ _)); exact BK652.out) hb)
              have n3_ := Aside0.mk (below_step (by repeat (first | (with_reducible first | exact HB.out | apply below_alloc | apply pw_below_drewN | apply below_drew1 | refine below_set ?_ GE652.out) | exact HB.out)) hb)
              clear HO_9
              clear BK652
              clear HB
              have HO_9 := n0_
              have HO671 := n1_
              have BK652 := n2_
              have HB := n3_
              clear n0_ n1_ n2_ n3_
              (try clear hb)
              (try clear hb2)
              (try clear hk)
              (try clear hi)
              (try clear ho0)
              obtain ⟨Ao28, co28, eo28⟩ := Kd.R_slice HO671.out
              (first | subst eo28 | (injection eo28 with f1_ f2_ f3_; have f4_ := f1_.symm; have f5_ := f3_.symm; clear f1_ f2_ f3_; subst f4_; subst f5_))
              refine hK.out _ _ ⟨(blk_cell BK652.out 0).trans rfl, (blk_cell BK652.out 1).trans rfl, (blk_cell BK652.out 2).trans rfl, (blk_cell BK652.out 3).trans rfl, (blk_cell BK652.out 4).trans rfl, (blk_cell BK652.out 5).trans rfl⟩ (fun hHeld => ?_)
              clear hK K
              refine norm_ (a' := ?_) ?_ ?_
              rotate_left
              · show Act.put _ (some 47) _ = _
                simp only [Act.put, List.setIfInBounds_toArray, List.set_cons_zero, List.set_cons_succ, i64_w, i32_w]
                rfl
              refine one_ (i := 8) (N := some 49) #[true, true, true, true, true, true, true, true, true, false, false, false] rfl rfl (one_of HT_.out (by kernel_rfl)) (by decide) (fun K hK => ?_)
              refine goes_ Tryd.func30 (by kernel_rfl) rfl #[.agg #[.int .i64 a0_0, .int .i64 a0_1, .int .i64 a0_2, .int .u64 a0_3, .int .u64 a0_4, .int .u64 a0_5], .agg #[.slice Ao28 t669.length co28, .int .u64 t672, .int .u64 t673, .int .i64 t674, .int .i64 t675], .slice A3 l3.length c3] (by rfl) rfl rfl (by (try simp only [List.map_toArray, List.map_cons, List.map_nil]); first | done | rfl | (simp only [List.length_drop, List.length_take]; rfl)) ?_
              with_reducible refine (spec_Folded.calls kj10 a0_0 a0_1 a0_2 a0_3 a0_4 a0_5 _ _ t669 t672 t673 t674 t675 (fun k_ => k_ < w.heap.size) _ _ l3 t676 _ ?side1 ?side2 ?side3 A24.out).mono ?_
              (case side1 => repeat (first | exact (Kd.R_reads' HO671.out).2.2 | (with_reducible refine Kd.C_alloc ?_ _) | (with_reducible refine Kd.C_drewN ?_ _) | (with_reducible refine Kd.C_drew ?_)))
              (case side2 => exact (Kd.R_reads' HO671.out).2.1)
              (case side3 => exact Kd.V_mk HC3.out (Kd.F_below (Kd.C_F (Kd.heap_slice 5 (Kd.heap_int .u8)) HR3.out) (by repeat (first | (with_reducible first | exact HB.out | apply below_alloc | apply pw_below_drewN | apply below_drew1 | refine below_set ?_ GE652.out) | exact HB.out))))
              rintro e w29 ⟨v677, rfl, ho0, hb⟩
              refine ⟨_, rfl, ?_⟩
              have n0_ := Aside0.mk (Kd.S_below (by (with_reducible repeat (first | apply Kd.S_alloc | apply Kd.S_drewN | apply Kd.S_drew)); exact HO_9.out) hb)
              have n1_ := Aside0.mk (Kd.R_below (by (with_reducible repeat (first | apply Kd.R_alloc | apply Kd.R_drewN | apply Kd.R_drew)); exact HO671.out) hb)
              have n2_ := Aside0.mk (Kd.V_lower (Kd.V_mono (ok' := fun k_ => some k_ ≠ (v659 : Value).ownBlock ∧ some k_ ≠ (.slice Ao28 t669.length co28 : Value).ownBlock ∧ k_ ≠ gb652) ho0 (fun k_ hk_ => ⟨Or.elim hk_ (fun hs_ => fun e_ => Nat.not_le.2 hs_ (Kd.S_base HO_9.out k_ e_.symm)) (fun hn_ => (Kd.fresh' (Kd.S_lt (by (with_reducible repeat (first | apply Kd.S_alloc | apply Kd.S_drewN | apply Kd.S_drew)); exact HO_9.out)) k_ hn_)), Or.elim hk_ (fun hs_ => fun e_ => Nat.not_le.2 hs_ (Kd.R_base HO671.out k_ e_.symm)) (fun hn_ => (Kd.fresh' (Kd.R_lt (by (with_reducible repeat (first | apply Kd.R_alloc | apply Kd.R_drewN | apply Kd.R_drew)); exact HO671.out)) k_ hn_)), Or.elim hk_ (fun hs_ => fun e_ => Nat.not_le.2 hs_ (by rw [e_]; exact GW652.out)) (fun hn_ => (Kd.freshB (g := gb652) (o := .cells #[.int .i64 a0_0, .int .i64 a0_1, .int .i64 a0_2, .int .u64 a0_3, .int .u64 a0_4, .int .u64 a0_5] 24 (0, 0)) (by (with_reducible repeat (first | refine blk_drewN ?_ _ | refine blk_drew ?_ | refine blk_alloc ?_ _)); exact BK652.out) k_ hn_))⟩)) (below_size (by repeat (first | (with_reducible first | exact HB.out | apply below_alloc | apply pw_below_drewN | apply below_drew1 | refine below_set ?_ GE652.out) | exact HB.out))))
              have n3_ := Aside0.mk (blk_below (g := gb652) (o := .cells #[.int .i64 a0_0, .int .i64 a0_1, .int .i64 a0_2, .int .u64 a0_3, .int .u64 a0_4, .int .u64 a0_5] 24 (0, 0)) (by (with_reducible repeat (first | refine blk_drewN ?_ _ | refine blk_drew ?_ | refine blk_alloc ?_ _)); exact BK652.out) hb)
              have n4_ := Aside0.mk (below_step (by repeat (first | (with_reducible first | exact HB.out | apply below_alloc | apply pw_below_drewN | apply below_drew1 | refine below_set ?_ GE652.out) | exact HB.out)) hb)
              clear HO_9
              clear HO671
              clear BK652
              clear HB
              have HO_9 := n0_
              have HO671 := n1_
              have HO678 := n2_
              have BK652 := n3_
              have HB := n4_
              clear n0_ n1_ n2_ n3_ n4_
              (try clear hb)
              (try clear hb2)
              (try clear hk)
              (try clear hi)
              (try clear ho0)
              obtain ⟨Ao30, co30, eo30⟩ := Kd.S_slice HO_9.out
              (first | subst eo30 | (injection eo30 with f1_ f2_ f3_; have f4_ := f1_.symm; have f5_ := f3_.symm; clear f1_ f2_ f3_; subst f4_; subst f5_))
              obtain ⟨Ao31, co31, eo31⟩ := Kd.V_slice HO678.out
              (first | subst eo31 | (injection eo31 with f1_ f2_ f3_; have f4_ := f1_.symm; have f5_ := f3_.symm; clear f1_ f2_ f3_; subst f4_; subst f5_))
              refine hK.out _ _ ⟨(blk_cell BK652.out 0).trans rfl, (blk_cell BK652.out 1).trans rfl, (blk_cell BK652.out 2).trans rfl, (blk_cell BK652.out 3).trans rfl, (blk_cell BK652.out 4).trans rfl, (blk_cell BK652.out 5).trans rfl⟩ (fun hHeld => ?_)
              clear hK K
              refine norm_ (a' := ?_) ?_ ?_
              rotate_left
              · show Act.put _ (some 49) _ = _
                simp only [Act.put, List.setIfInBounds_toArray, List.set_cons_zero, List.set_cons_succ, i64_w, i32_w]
                rfl
              refine one_ (i := 9) (N := some 50) #[true, true, true, true, true, true, true, true, true, true, false, false] rfl rfl (one_of HT_.out (by kernel_rfl)) (by decide) (fun K hK => ?_)
              refine goes_ Tryd.func29 (by kernel_rfl) rfl #[.slice Ao30 t658.length co30, .slice Ao31 t676.length co31] (by rfl) rfl rfl (by (try simp only [List.map_toArray, List.map_cons, List.map_nil]); first | done | rfl | (simp only [List.length_drop, List.length_take]; rfl)) ?_
              with_reducible refine (spec_Same.calls kj10 _ _ t658 _ _ t676 t679 _ ?side1 ?side2 ?side3 ?side4 A25.out).mono ?_
              (case side1 => repeat (first | exact (Kd.S_reads' HO_9.out).2.2 | (with_reducible refine Kd.C_alloc ?_ _) | (with_reducible refine Kd.C_drewN ?_ _) | (with_reducible refine Kd.C_drew ?_)))
              (case side2 => exact (Kd.S_reads' HO_9.out).2.1)
              (case side3 => repeat (first | exact (Kd.V_reads' HO678.out).2.2 | (with_reducible refine Kd.C_alloc ?_ _) | (with_reducible refine Kd.C_drewN ?_ _) | (with_reducible refine Kd.C_drew ?_)))
              (case side4 => exact (Kd.V_reads' HO678.out).2.1)
              rintro e w' ⟨rfl, ⟨nd, rfl⟩⟩
              refine ⟨_, rfl, ?_⟩
              refine hK.out _ _ ⟨(blk_cell BK652.out 0).trans rfl, (blk_cell BK652.out 1).trans rfl, (blk_cell BK652.out 2).trans rfl, (blk_cell BK652.out 3).trans rfl, (blk_cell BK652.out 4).trans rfl, (blk_cell BK652.out 5).trans rfl⟩ (fun hHeld => ?_)
              clear hK K
              refine norm_ (a' := ?_) ?_ ?_
              rotate_left
              · show Act.put _ (some 50) _ = _
                simp only [Act.put, List.setIfInBounds_toArray, List.set_cons_zero, List.set_cons_succ, i64_w, i32_w]
                rfl
              refine pure_ (i := 10) (N := some 51) (v := ?_) (a' := ?_) #[true, true, true, true, true, true, true, true, true, true, true, false] rfl rfl (any_of HT_.out (by kernel_rfl)) (fun _ _ _ h => h) (Or.inl ⟨by rfl, ?_⟩) ?_ ?_
              rotate_left
              · intro w'
                go_simp
                with_reducible rfl
              rotate_left
              · simp only [Act.put, List.setIfInBounds_toArray, List.set_cons_zero, List.set_cons_succ, i64_w, i32_w]
                rfl
              refine pure_ (i := 11) (N := some 8) (v := ?_) (a' := ?_) #[true, true, true, true, true, true, true, true, true, true, true, true] rfl rfl (any_of HT_.out (by kernel_rfl)) (fun _ _ _ h => h) (Or.inl ⟨by rfl, ?_⟩) ?_ ?_
              rotate_left
              · intro w'
                go_simp
                with_reducible rfl
              rotate_left
              · simp only [Act.put, List.setIfInBounds_toArray, List.set_cons_zero, List.set_cons_succ, i64_w, i32_w]
                rfl
              refine done_ (done_of HT_.out (by kernel_rfl)) ?_
              try go_wp2
              go_ret
              exact ⟨by first | rfl | (simp [errW_none, errW_some] <;> rfl) | (simp [*, errW_none, errW_some] <;> rfl), by repeat (first | (with_reducible first | exact HB.out | apply below_alloc | apply pw_below_drewN | apply below_drew1 | refine below_set ?_ GE652.out) | exact HB.out)⟩
            · replace c22 := Bool.eq_false_iff.mpr c22
              subst c22
              have H1 : (none) = some r := by rw [if_neg (show ¬ (false = true) by decide)] at H; exact H
              clear H
              have H := H1
              clear H1
              exact absurd H (by simp)
    · replace c8 := Bool.eq_false_iff.mpr c8
      subst c8
      have H1 : (some true) = some r := by rw [if_neg (show ¬ (false = true) by decide)] at H; exact H
      clear H
      have H := H1
      clear H1
      obtain rfl := Option.some.inj H
      go_enter Tryd.func6, Tryd.ntmps6
      go_wp2_with (first | ((with_reducible refine gate_dst (N := 4) rfl ?_); (try (refine gate_guard (by rfl) ?_; dsimp only)); refine box_event ?hg (N := 4) ?hd (cs := #[.int .i64 a0_0, .int .i64 a0_1, .int .i64 a0_2, .int .u64 a0_3, .int .u64 a0_4, .int .u64 a0_5]) (t := 24) ?hr ?_; (case hd => rfl); (case hg => rfl); (case hr => first | (go_simp; done) | (go_simp; rfl)); intro gb652 hg w32 hbox hb; have n0_ := Aside0.mk (below_step (by repeat (first | (with_reducible first | exact HB.out | apply below_alloc | apply pw_below_drewN | apply below_drew1) | exact HB.out)) hb); have n1_ := Aside0.mk (hbox); have n2_ := Aside0.mk ((by rw [hg]; exact (below_size (by repeat (first | (with_reducible first | exact HB.out | apply below_alloc | apply pw_below_drewN | apply below_drew1) | exact HB.out))) : w.heap.size ≤ gb652)); have n3_ := Aside0.mk ((by rw [hg]; exact (below_size (by repeat (first | (with_reducible first | exact HB.out | apply below_alloc | apply pw_below_drewN | apply below_drew1) | exact HB.out))) : w.heap.size ≤ gb652)); clear HB; have HB := n0_; have BK652 := n1_; have GW652 := n2_; have GE652 := n3_; clear n0_ n1_ n2_ n3_; clear hb hbox hg) | ((with_reducible refine gate_callee (f := 12) rfl ?_); refine goesL_ (some 12) rfl rfl Tryd.func12 (by kernel_rfl) rfl #[.slice A3 l3.length c3] rfl (by (try simp only [List.map_toArray, List.map_cons, List.map_nil]); first | done | rfl | (simp only [List.length_drop, List.length_take]; rfl)) ?_; (with_reducible refine (laws_zzFits2.calls k _ _ l3 true _ ?side1 ?side2 A5.out).mono ?_); (case side1 => repeat (first | exact (Kd.C_below HR3.out HB.out) | (with_reducible refine Kd.C_alloc ?_ _) | (with_reducible refine Kd.C_drewN ?_ _) | (with_reducible refine Kd.C_drew ?_))); (case side2 => exact HC3.out); rintro e w' ⟨rfl, ⟨nd, rfl⟩⟩; refine ⟨_, rfl, ?_⟩) | ((with_reducible refine gate_callee (f := 13) rfl ?_); refine goesL_ (some 15) rfl rfl Tryd.func13 (by kernel_rfl) rfl #[.slice A3 l3.length c3] rfl (by (try simp only [List.map_toArray, List.map_cons, List.map_nil]); first | done | rfl | (simp only [List.length_drop, List.length_take]; rfl)) ?_; (with_reducible refine (laws_logSmall.calls k _ _ l3 false _ ?side1 ?side2 A7.out).mono ?_); (case side1 => repeat (first | exact (Kd.C_below HR3.out (by repeat (first | (with_reducible first | exact HB.out | apply below_alloc | apply pw_below_drewN | apply below_drew1 | refine below_set ?_ GE652.out) | exact HB.out))) | (with_reducible refine Kd.C_alloc ?_ _) | (with_reducible refine Kd.C_drewN ?_ _) | (with_reducible refine Kd.C_drew ?_))); (case side2 => exact HC3.out); rintro e w' ⟨rfl, ⟨nd, rfl⟩⟩; refine ⟨_, rfl, ?_⟩))
      go_ret
      exact ⟨by first | rfl | (simp [errW_none, errW_some] <;> rfl) | (simp [*, errW_none, errW_some] <;> rfl), by repeat (first | (with_reducible first | exact HB.out | apply below_alloc | apply pw_below_drewN | apply below_drew1 | refine below_set ?_ GE652.out) | exact HB.out)⟩
  · replace c6 := Bool.eq_false_iff.mpr c6
    subst c6
    have H1 : (some true) = some r := by rw [if_neg (show ¬ (false = true) by decide)] at H; exact H
    clear H
    have H := H1
    clear H1
    obtain rfl := Option.some.inj H
    go_enter Tryd.func6, Tryd.ntmps6
    go_wp2_with (first | ((with_reducible refine gate_dst (N := 4) rfl ?_); (try (refine gate_guard (by rfl) ?_; dsimp only)); refine box_event ?hg (N := 4) ?hd (cs := #[.int .i64 a0_0, .int .i64 a0_1, .int .i64 a0_2, .int .u64 a0_3, .int .u64 a0_4, .int .u64 a0_5]) (t := 24) ?hr ?_; (case hd => rfl); (case hg => rfl); (case hr => first | (go_simp; done) | (go_simp; rfl)); intro gb652 hg w33 hbox hb; have n0_ := Aside0.mk (below_step (by repeat (first | (with_reducible first | exact HB.out | apply below_alloc | apply pw_below_drewN | apply below_drew1) | exact HB.out)) hb); have n1_ := Aside0.mk (hbox); have n2_ := Aside0.mk ((by rw [hg]; exact (below_size (by repeat (first | (with_reducible first | exact HB.out | apply below_alloc | apply pw_below_drewN | apply below_drew1) | exact HB.out))) : w.heap.size ≤ gb652)); have n3_ := Aside0.mk ((by rw [hg]; exact (below_size (by repeat (first | (with_reducible first | exact HB.out | apply below_alloc | apply pw_below_drewN | apply below_drew1) | exact HB.out))) : w.heap.size ≤ gb652)); clear HB; have HB := n0_; have BK652 := n1_; have GW652 := n2_; have GE652 := n3_; clear n0_ n1_ n2_ n3_; clear hb hbox hg) | ((with_reducible refine gate_callee (f := 12) rfl ?_); refine goesL_ (some 12) rfl rfl Tryd.func12 (by kernel_rfl) rfl #[.slice A3 l3.length c3] rfl (by (try simp only [List.map_toArray, List.map_cons, List.map_nil]); first | done | rfl | (simp only [List.length_drop, List.length_take]; rfl)) ?_; (with_reducible refine (laws_zzFits2.calls k _ _ l3 false _ ?side1 ?side2 A5.out).mono ?_); (case side1 => repeat (first | exact (Kd.C_below HR3.out HB.out) | (with_reducible refine Kd.C_alloc ?_ _) | (with_reducible refine Kd.C_drewN ?_ _) | (with_reducible refine Kd.C_drew ?_))); (case side2 => exact HC3.out); rintro e w' ⟨rfl, ⟨nd, rfl⟩⟩; refine ⟨_, rfl, ?_⟩))
    go_ret
    exact ⟨by first | rfl | (simp [errW_none, errW_some] <;> rfl) | (simp [*, errW_none, errW_some] <;> rfl), by repeat (first | (with_reducible first | exact HB.out | apply below_alloc | apply pw_below_drewN | apply below_drew1 | refine below_set ?_ GE652.out) | exact HB.out)⟩
end Go.Proofs.YtielnphmcaecdaaDoor.PAll
