-- Written by a program of this session (wip/tools)
import Derived.Test.YtielnphmcaecdaaDoorQTTTreeMem
import Derived.Test.YtielnphmcaecdaaDoorQTTPAllx6
set_option maxHeartbeats 8000000
set_option maxRecDepth 100000
set_option linter.unusedVariables false
set_option linter.unusedSimpArgs false
namespace Go.Proofs.YtielnphmcaecdaaDoor.PAll
open Go.RowKit Go.Proofs.YtielnphmcaecdaaDoorW.PrintWords Go.Proofs.YtielnphmcaecdaaDoorW.PrintLast Go.Proofs.YtielnphmcaecdaaDoorW.PrintMore
attribute [local go_sem] max2_int min2_int max_two min_two max_three min_three max_four min_four   -- for this text's walks alone
def spec_proofIn.f : Nat → Int → Int → Int → Bool → Option ((List (S53)))
 | 0, _, _, _, _ => none
 | k + 1, a0, a1_0, a1_1, a2 => if a0 = a1_1 then (if a2 = true then (some ([] : List (S53))) else (some (([(⟨a1_0, a1_1⟩ : S53)] : List (S53))))) else ((spec_split.f k (IntKind.u64.wrap (a1_1 - a1_0))).bind fun t336 => (if a0 ≤ (IntKind.u64.wrap (a1_0 + t336)) then ((spec_proofIn.f k a0 a1_0 (IntKind.u64.wrap (a1_0 + t336)) a2).bind fun t337 => ((some (([(⟨IntKind.u64.wrap (a1_0 + t336), a1_1⟩ : S53)] : List (S53)) : List (S53))).bind fun y340 => (if t337.length + y340.length < 8796093022208 then (some (t337 ++ y340)) else (none)))) else ((spec_proofIn.f k a0 (IntKind.u64.wrap (a1_0 + t336)) a1_1 false).bind fun t346 => ((some (([(⟨a1_0, IntKind.u64.wrap (a1_0 + t336)⟩ : S53)] : List (S53)) : List (S53))).bind fun y349 => (if t346.length + y349.length < 8796093022208 then (some (t346 ++ y349)) else (none))))))
def spec_proofIn.T5 : Bool × List (List Nat × List Nat) := (true, [([], []), ([0], [0]), ([], []), ([2], [2]), ([], []), ([4], [4]), ([3, 5], [3, 5]), ([6], [6]), ([1, 7], [1, 7]), ([8, 7, 0, 1, 2, 3, 4, 5, 6, 7, 8], [8])])
def spec_proofIn.B5 : List Nat := [0, 1, 0, 4, 0, 16, 60, 124, 255, 511]
theorem spec_proofIn.tab5 : rtab .any (opsOf Tryd.f98 5) = spec_proofIn.T5 := by kernel_rfl
theorem spec_proofIn.bits5 : waitsOk spec_proofIn.T5.2 spec_proofIn.B5 = true := by kernel_rfl
def spec_proofIn.T7 : Bool × List (List Nat × List Nat) := (true, [([], []), ([], []), ([1], [1]), ([], []), ([2, 3], [2, 3]), ([], []), ([0, 4, 5], [0, 4, 5]), ([], []), ([], []), ([8], [8]), ([7, 9], [7, 9]), ([10], [10]), ([6, 11, 6], [6, 11]), ([12, 12, 0, 1, 2, 3, 4, 5, 6, 7, 8, 9, 10, 11, 12], [12])])
def spec_proofIn.B7 : List Nat := [0, 0, 2, 0, 14, 0, 63, 0, 0, 256, 896, 1920, 4095, 8191]
theorem spec_proofIn.tab7 : rtab .any (opsOf Tryd.f98 7) = spec_proofIn.T7 := by kernel_rfl
theorem spec_proofIn.bits7 : waitsOk spec_proofIn.T7.2 spec_proofIn.B7 = true := by kernel_rfl
def spec_proofIn.T8 : Bool × List (List Nat × List Nat) := (true, [([], []), ([], []), ([], []), ([2], [2]), ([1, 3], [1, 3]), ([0, 4], [0, 4]), ([], []), ([6], [6]), ([], []), ([7, 8], [7, 8]), ([9], [9]), ([5, 10, 5], [5, 10]), ([11, 11, 0, 1, 2, 3, 4, 5, 6, 7, 8, 9, 10, 11], [11])])
def spec_proofIn.B8 : List Nat := [0, 0, 0, 4, 14, 31, 0, 64, 0, 448, 960, 2047, 4095]
theorem spec_proofIn.tab8 : rtab .any (opsOf Tryd.f98 8) = spec_proofIn.T8 := by kernel_rfl
theorem spec_proofIn.bits8 : waitsOk spec_proofIn.T8.2 spec_proofIn.B8 = true := by kernel_rfl
theorem spec_proofIn.calls (k : Nat) : ∀ (a0 : Int) (a1_0 : Int) (a1_1 : Int) (a2 : Bool) (r : List (S53)) (w : World) (h : spec_proofIn.f k a0 a1_0 a1_1 a2 = some r),
 Calls Tryd.prog 98 #[.int .u64 a0, .agg #[.int .u64 a1_0, .int .u64 a1_1], .bool a2] w fun e w' => ∃ v0_ : Value, e = .returned (v0_) ∧ Kd.R k53 53 w' w.heap.size (fun _ => True) v0_ r ∧ Below w.heap.size w w' := by
 induction k using Nat.strongRecOn with
 | _ k ih =>
 intro a0 a1_0 a1_1 a2 r w h
 cases k with
 | zero => exact absurd h (by simp [spec_proofIn.f])
 | succ k =>
 simp only [spec_proofIn.f] at h
 have hu53 := Tryd.underlying53
 have HB := Aside0.mk (Below.refl w.heap.size w)
 have H : (if a0 = a1_1 then (if a2 = true then (some ([] : List (S53))) else (some (([(⟨a1_0, a1_1⟩ : S53)] : List (S53))))) else ((spec_split.f k (IntKind.u64.wrap (a1_1 - a1_0))).bind fun t336 => (if a0 ≤ (IntKind.u64.wrap (a1_0 + t336)) then ((spec_proofIn.f k a0 a1_0 (IntKind.u64.wrap (a1_0 + t336)) a2).bind fun t337 => ((some (([(⟨IntKind.u64.wrap (a1_0 + t336), a1_1⟩ : S53)] : List (S53)) : List (S53))).bind fun y340 => (if t337.length + y340.length < 8796093022208 then (some (t337 ++ y340)) else (none)))) else ((spec_proofIn.f k a0 (IntKind.u64.wrap (a1_0 + t336)) a1_1 false).bind fun t346 => ((some (([(⟨a1_0, IntKind.u64.wrap (a1_0 + t336)⟩ : S53)] : List (S53)) : List (S53))).bind fun y349 => (if t346.length + y349.length < 8796093022208 then (some (t346 ++ y349)) else (none))))))) = some r := h
 clear h
 by_cases c4 : a0 = a1_1
 ·rw [if_pos c4] at H
  have c4b0 : (a0 == a1_1) = true := beq_iff_eq.mpr c4
  have c4b1 : (a0 != a1_1) = false := bne_eq_false_iff_eq.mpr c4
  clear c4
  by_cases c5 : a2 = true
  ·subst c5
   have H1 : (some ([] : List (S53))) = some r := by rw [if_pos rfl] at H; exact H
   clear H
   have H := H1
   clear H1
   obtain rfl := Option.some.inj H
   go_enter Tryd.func98, Tryd.ntmps98
   go_wp2_with (first | ((with_reducible refine gate_dst (N := 4) rfl ?_); refine box_event ?hg (N := 4) ?hd (cs := #[.int .u64 a1_0, .int .u64 a1_1]) (t := 53) ?hr ?_; (case hd => rfl); (case hg => rfl); (case hr => first | (go_simp; done)); intro gb332 hg w6 hbox hb; have n0_ := Aside0.mk (below_step (by repeat (first | (with_reducible first | exact HB.out))) hb); have n1_ := Aside0.mk (hbox); have n2_ := Aside0.mk ((by rw [hg]; exact (below_size (by repeat (first | (with_reducible first | exact HB.out)))) : w.heap.size ≤ gb332)); have n3_ := Aside0.mk ((by rw [hg]; exact (below_size (by repeat (first | (with_reducible first | exact HB.out)))) : w.heap.size ≤ gb332)); clear HB; have HB := n0_; have BK332 := n1_; have GW332 := n2_; have GE332 := n3_; clear n0_ n1_ n2_ n3_; clear hb hbox hg; have hcz7_0 : w6.cell? ⟨gb332, 0, none⟩ = some (.int .u64 a1_0) := (blk_cell BK332.out 0).trans rfl; have hcz7_1 : w6.cell? ⟨gb332, 1, none⟩ = some (.int .u64 a1_1) := (blk_cell BK332.out 1).trans rfl; have hfz7_0 := blk_frozen BK332.out 0; have hfz7_1 := blk_frozen BK332.out 1))
   go_ret
   exact ⟨_, by first | rfl, by first | exact Kd.R_nil _ _ _ _ _, by repeat (first | (with_reducible first | exact HB.out))⟩
  ·replace c5 := Bool.eq_false_iff.mpr c5
   subst c5
   have H1 : (some (([(⟨a1_0, a1_1⟩ : S53)] : List (S53)))) = some r := by rw [if_neg (show ¬ (false = true) by decide)] at H; exact H
   clear H
   have H := H1
   clear H1
   obtain ⟨y333, hy333⟩ : ∃ y_ : List (S53), y_ = (([(⟨a1_0, a1_1⟩ : S53)] : List (S53))) := ⟨_, rfl⟩
   replace H : (some y333) = some r := by first | (rw [hy333]; with_reducible exact H)
   have Ny333 := Aside0.mk hy333
   clear hy333
   obtain rfl := Option.some.inj H
   go_enter Tryd.func98, Tryd.ntmps98
   go_wp2_with (first | ((with_reducible refine gate_dst (N := 4) rfl ?_); refine box_event ?hg (N := 4) ?hd (cs := #[.int .u64 a1_0, .int .u64 a1_1]) (t := 53) ?hr ?_; (case hd => rfl); (case hg => rfl); (case hr => first | (go_simp; done)); intro gb332 hg w8 hbox hb; have n0_ := Aside0.mk (below_step (by repeat (first | (with_reducible first | exact HB.out))) hb); have n1_ := Aside0.mk (hbox); have n2_ := Aside0.mk ((by rw [hg]; exact (below_size (by repeat (first | (with_reducible first | exact HB.out)))) : w.heap.size ≤ gb332)); have n3_ := Aside0.mk ((by rw [hg]; exact (below_size (by repeat (first | (with_reducible first | exact HB.out)))) : w.heap.size ≤ gb332)); clear HB; have HB := n0_; have BK332 := n1_; have GW332 := n2_; have GE332 := n3_; clear n0_ n1_ n2_ n3_; clear hb hbox hg; have hcz9_0 : w8.cell? ⟨gb332, 0, none⟩ = some (.int .u64 a1_0) := (blk_cell BK332.out 0).trans rfl; have hcz9_1 : w8.cell? ⟨gb332, 1, none⟩ = some (.int .u64 a1_1) := (blk_cell BK332.out 1).trans rfl; have hfz9_0 := blk_frozen BK332.out 0; have hfz9_1 := blk_frozen BK332.out 1) | ((with_reducible refine gate_dst (N := 14) rfl ?_); refine Kd.R_lit k53 _ 53 ?hg (N := 14) ?hd (xs := ([(⟨a1_0, a1_1⟩ : S53)] : List (S53))) (inner := [.int .u64 a1_0, .int .u64 a1_1]) (ok := fun _ => True) (okp := fun _ => True) ?hr ?hp (fun _ hk => hk) trivial (Below.refl _ _) (Nat.le_refl _) (by simp) ?_; (case hd => rfl); (case hg => rfl); (case hr => first | (go_simp; done)); (case hp => exact (Reps.c2 (show Kd.M k53 _ _ _ (⟨a1_0, a1_1⟩ : S53) [.int .u64 a1_0, .int .u64 a1_1] from (k53_mkM _ _ _ (⟨a1_0, a1_1⟩ : S53) )) (Reps.none _ _))); intro v334 w10 ho11 hb hg_ hnew_; clear hg_ hnew_; (first | rw [← Ny333.out] at ho11); have n0_ := Aside0.mk (Kd.R_lower (Kd.R_newB ho11 (g := gb332) (o := .cells #[.int .u64 a1_0, .int .u64 a1_1] 53 (0, 0)) (by exact BK332.out)) (below_size (by repeat (first | (with_reducible first | exact HB.out))))); have n1_ := Aside0.mk (blk_below (g := gb332) (o := .cells #[.int .u64 a1_0, .int .u64 a1_1] 53 (0, 0)) (by exact BK332.out) hb); have n2_ := Aside0.mk (below_step (by repeat (first | (with_reducible first | exact HB.out))) hb); clear BK332; clear HB; have HO335 := n0_; have BK332 := n1_; have HB := n2_; clear n0_ n1_ n2_; clear hb ho11))
   go_ret
   exact ⟨_, by first | rfl, by exact Kd.R_mono HO335.out (fun _ hk => trivial), by repeat (first | (with_reducible first | exact HB.out))⟩
 ·rw [if_neg c4] at H
  have c4b0 : (a0 == a1_1) = false := beq_eq_false_iff_ne.mpr c4
  have c4b1 : (a0 != a1_1) = true := bne_iff_ne.mpr c4
  replace H := Option.bind_eq_some_iff.mp H
  obtain ⟨t336, A120, H⟩ := H
  replace H : (if a0 ≤ (IntKind.u64.wrap (a1_0 + t336)) then ((spec_proofIn.f k a0 a1_0 (IntKind.u64.wrap (a1_0 + t336)) a2).bind fun t337 => ((some (([(⟨IntKind.u64.wrap (a1_0 + t336), a1_1⟩ : S53)] : List (S53)) : List (S53))).bind fun y340 => (if t337.length + y340.length < 8796093022208 then (some (t337 ++ y340)) else (none)))) else ((spec_proofIn.f k a0 (IntKind.u64.wrap (a1_0 + t336)) a1_1 false).bind fun t346 => ((some (([(⟨a1_0, IntKind.u64.wrap (a1_0 + t336)⟩ : S53)] : List (S53)) : List (S53))).bind fun y349 => (if t346.length + y349.length < 8796093022208 then (some (t346 ++ y349)) else (none))))) = some r := H
  have A12 := Aside0.mk A120
  clear A120
  by_cases c13 : a0 ≤ (IntKind.u64.wrap (a1_0 + t336))
  ·rw [if_pos c13] at H
   have c13b0 : decide (a0 ≤ (IntKind.u64.wrap (a1_0 + t336))) = true := decide_eq_true c13
   clear c13
   replace H := Option.bind_eq_some_iff.mp H
   obtain ⟨t337, A140, H⟩ := H
   replace H : ((some (([(⟨IntKind.u64.wrap (a1_0 + t336), a1_1⟩ : S53)] : List (S53)) : List (S53))).bind fun y340 => (if t337.length + y340.length < 8796093022208 then (some (t337 ++ y340)) else (none))) = some r := H
   have A14 := Aside0.mk A140
   clear A140
   obtain ⟨y340, hy340⟩ : ∃ y_ : List (S53), y_ = (([(⟨IntKind.u64.wrap (a1_0 + t336), a1_1⟩ : S53)] : List (S53))) := ⟨_, rfl⟩
   replace H : (if t337.length + y340.length < 8796093022208 then (some (t337 ++ y340)) else (none)) = some r := by first | (have H2_ := (Option.bind_some _ _).symm.trans H; rw [hy340]; with_reducible exact H2_)
   have Ny340 := Aside0.mk hy340
   clear hy340
   by_cases c15 : t337.length + y340.length < 8796093022208
   ·rw [if_pos c15] at H
    have LMc15 := Aside0.mk c15
    clear c15
    obtain ⟨y343, hy343⟩ : ∃ y_ : List (S53), y_ = (t337 ++ y340) := ⟨_, rfl⟩
    replace H : (some y343) = some r := by first | (rw [hy343]; with_reducible exact H)
    have Ny343 := Aside0.mk hy343
    clear hy343
    obtain rfl := Option.some.inj H
    go_enter Tryd.func98, Tryd.ntmps98
    try go_wp2_with (first | ((with_reducible refine gate_dst (N := 4) rfl ?_); refine box_event ?hg (N := 4) ?hd (cs := #[.int .u64 a1_0, .int .u64 a1_1]) (t := 53) ?hr ?_; (case hd => rfl); (case hg => rfl); (case hr => first | (go_simp; done)); intro gb332 hg w16 hbox hb; have n0_ := Aside0.mk (below_step (by repeat (first | (with_reducible first | exact HB.out))) hb); have n1_ := Aside0.mk (hbox); have n2_ := Aside0.mk ((by rw [hg]; exact (below_size (by repeat (first | (with_reducible first | exact HB.out)))) : w.heap.size ≤ gb332)); have n3_ := Aside0.mk ((by rw [hg]; exact (below_size (by repeat (first | (with_reducible first | exact HB.out)))) : w.heap.size ≤ gb332)); clear HB; have HB := n0_; have BK332 := n1_; have GW332 := n2_; have GE332 := n3_; clear n0_ n1_ n2_ n3_; clear hb hbox hg; have hcz17_0 : w16.cell? ⟨gb332, 0, none⟩ = some (.int .u64 a1_0) := (blk_cell BK332.out 0).trans rfl; have hcz17_1 : w16.cell? ⟨gb332, 1, none⟩ = some (.int .u64 a1_1) := (blk_cell BK332.out 1).trans rfl; have hfz17_0 := blk_frozen BK332.out 0; have hfz17_1 := blk_frozen BK332.out 1))
    (try (rw [drewN_self w16]; generalize hq_ : World.drewN w16 _ = w16; have n0_ : Aside0 (w16.heap[gb332]? = some (.cells #[.int .u64 a1_0, .int .u64 a1_1] 53 (0, 0))) := ⟨by rw [← hq_]; exact (by exact BK332.out)⟩; have n1_ : Aside0 (Below w.heap.size w w16) := ⟨by rw [← hq_]; exact (by repeat (first | exact HB.out))⟩; clear BK332 HB hq_; have BK332 := n0_; have HB := n1_; clear n0_ n1_))
    have n0_ := Aside0.mk (blk_drew BK332.out)
    have n1_ := Aside0.mk (below_drew1 HB.out)
    clear BK332
    clear HB
    have BK332 := n0_
    have HB := n1_
    clear n0_ n1_
    refine start_ (n := 10) (S := fun w' => w'.cell? ⟨gb332, 0, none⟩ = some (.int .u64 a1_0) ∧ w'.cell? ⟨gb332, 1, none⟩ = some (.int .u64 a1_1)) (ds := []) #[false, false, false, false, false, false, false, false, false, false] (by kernel_rfl) rfl rfl ⟨(blk_cell BK332.out 0).trans rfl, (blk_cell BK332.out 1).trans rfl⟩ (fun hHeld => ?_); refine with_tabW spec_proofIn.tab5 spec_proofIn.bits5 (fun HT_ HW_ => ?_)
    generalize w16.drew = w18 at BK332 HB hHeld ⊢
    refine pure_ (i := 0) (N := some 15) (v := ?_) (a' := ?_) #[true, false, false, false, false, false, false, false, false, false] rfl rfl (any_of HT_.out (by kernel_rfl)) (fun _ _ _ h => h) (Or.inl ⟨by rfl, ?_⟩) ?_ ?_
    rotate_left
    ·intro w'
     go_simp
     with_reducible rfl
    rotate_left
    ·simp only [Act.put, List.setIfInBounds_toArray, List.set_cons_zero, List.set_cons_succ, i64_w, i32_w]
     rfl
    refine pure_ (i := 2) (N := some 17) (v := ?_) (a' := ?_) #[true, false, true, false, false, false, false, false, false, false] rfl rfl (any_of HT_.out (by kernel_rfl)) (fun _ _ _ h => h) (Or.inl ⟨by rfl, ?_⟩) ?_ ?_
    rotate_left
    ·intro w'
     go_simp
     with_reducible rfl
    rotate_left
    ·simp only [Act.put, List.setIfInBounds_toArray, List.set_cons_zero, List.set_cons_succ, i64_w, i32_w]
     rfl
    refine pure_ (i := 4) (N := some 19) (v := ?_) (a' := ?_) #[true, false, true, false, true, false, false, false, false, false] rfl rfl (any_of HT_.out (by kernel_rfl)) (fun _ _ _ h => h) (Or.inl ⟨by rfl, ?_⟩) ?_ ?_
    rotate_left
    ·intro w'
     go_simp
     with_reducible rfl
    rotate_left
    ·simp only [Act.put, List.setIfInBounds_toArray, List.set_cons_zero, List.set_cons_succ, i64_w, i32_w]
     rfl
    refine take_ (i := 1) (N := some 16) (v := ?_) (a' := ?_) #[true, true, true, false, true, false, false, false, false, false] rfl rfl (take_ofW HT_.out HW_.out (by kernel_rfl)) (fun _ _ _ h => h) (Or.inl ⟨by rfl, ?_⟩) hHeld ?_ ?_
    rotate_left
    ·rintro w' ⟨s0, s1⟩
     go_simp
     with_reducible rfl
    rotate_left
    ·simp only [Act.put, List.setIfInBounds_toArray, List.set_cons_zero, List.set_cons_succ, i64_w, i32_w]
     rfl
    refine take_ (i := 3) (N := some 18) (v := ?_) (a' := ?_) #[true, true, true, true, true, false, false, false, false, false] rfl rfl (take_ofW HT_.out HW_.out (by kernel_rfl)) (fun _ _ _ h => h) (Or.inl ⟨by rfl, ?_⟩) hHeld ?_ ?_
    rotate_left
    ·rintro w' ⟨s0, s1⟩
     go_simp
     with_reducible rfl
    rotate_left
    ·simp only [Act.put, List.setIfInBounds_toArray, List.set_cons_zero, List.set_cons_succ, i64_w, i32_w]
     rfl
    refine take_ (i := 5) (N := some 20) (v := ?_) (a' := ?_) #[true, true, true, true, true, true, false, false, false, false] rfl rfl (take_ofW HT_.out HW_.out (by kernel_rfl)) (fun _ _ _ h => h) (Or.inl ⟨by rfl, ?_⟩) hHeld ?_ ?_
    rotate_left
    ·rintro w' ⟨s0, s1⟩
     go_simp
     with_reducible rfl
    rotate_left
    ·simp only [Act.put, List.setIfInBounds_toArray, List.set_cons_zero, List.set_cons_succ, i64_w, i32_w]
     rfl
    refine pure_ (i := 6) (N := some 21) (v := ?_) (a' := ?_) #[true, true, true, true, true, true, true, false, false, false] rfl rfl (any_of HT_.out (by kernel_rfl)) (fun _ _ _ h => h) (Or.inl ⟨by rfl, ?_⟩) ?_ ?_
    rotate_left
    ·intro w'
     go_simp
     with_reducible rfl
    rotate_left
    ·simp only [Act.put, List.setIfInBounds_toArray, List.set_cons_zero, List.set_cons_succ, i64_w, i32_w]
     rfl
    refine one_ (i := 7) (N := some 22) #[true, true, true, true, true, true, true, true, false, false] rfl rfl (one_of HT_.out (by kernel_rfl)) (by decide) (fun K hK => ?_)
    refine goes_ Tryd.func48 (by kernel_rfl) rfl #[.int .u64 (IntKind.u64.wrap (a1_1 - a1_0))] (by rfl) rfl rfl (by (try simp only [List.map_toArray, List.map_cons, List.map_nil]); first | rfl) ?_
    with_reducible refine (spec_split.calls k (IntKind.u64.wrap (a1_1 - a1_0)) t336 _ A12.out).mono ?_
    rintro e w' ⟨rfl, ⟨nd, rfl⟩⟩
    refine ⟨_, rfl, ?_⟩
    refine hK.out _ _ ⟨(blk_cell BK332.out 0).trans rfl, (blk_cell BK332.out 1).trans rfl⟩ (fun hHeld => ?_)
    clear hK K
    refine norm_ (a' := ?_) ?_ ?_
    rotate_left
    ·show Act.put _ (some 22) _ = _
     simp only [Act.put, List.setIfInBounds_toArray, List.set_cons_zero, List.set_cons_succ, i64_w, i32_w]
     rfl
    refine pure_ (i := 8) (N := some 23) (v := ?_) (a' := ?_) #[true, true, true, true, true, true, true, true, true, false] rfl rfl (any_of HT_.out (by kernel_rfl)) (fun _ _ _ h => h) (Or.inl ⟨by rfl, ?_⟩) ?_ ?_
    rotate_left
    ·intro w'
     go_simp
     with_reducible rfl
    rotate_left
    ·simp only [Act.put, List.setIfInBounds_toArray, List.set_cons_zero, List.set_cons_succ, i64_w, i32_w]
     rfl
    refine pure_ (i := 9) (N := some 7) (v := ?_) (a' := ?_) #[true, true, true, true, true, true, true, true, true, true] rfl rfl (any_of HT_.out (by kernel_rfl)) (fun _ _ _ h => h) (Or.inl ⟨by rfl, ?_⟩) ?_ ?_
    rotate_left
    ·intro w'
     go_simp
     with_reducible rfl
    rotate_left
    ·simp only [Act.put, List.setIfInBounds_toArray, List.set_cons_zero, List.set_cons_succ, i64_w, i32_w]
     rfl
    refine done_ (done_of HT_.out (by kernel_rfl)) ?_
    try go_wp2
    (try (rw [drewN_self w18]; generalize hq_ : World.drewN w18 _ = w18; have n0_ : Aside0 (w18.heap[gb332]? = some (.cells #[.int .u64 a1_0, .int .u64 a1_1] 53 (0, 0))) := ⟨by rw [← hq_]; exact (by (with_reducible repeat (first | refine blk_drewN ?_ _)); exact BK332.out)⟩; have n1_ : Aside0 (Below w.heap.size w w18) := ⟨by rw [← hq_]; exact (by repeat (first | (with_reducible first | exact HB.out | apply pw_below_drewN)))⟩; clear BK332 HB hq_; have BK332 := n0_; have HB := n1_; clear n0_ n1_))
    have n0_ := Aside0.mk (blk_drew BK332.out)
    have n1_ := Aside0.mk (below_drew1 HB.out)
    clear BK332
    clear HB
    have BK332 := n0_
    have HB := n1_
    clear n0_ n1_
    refine start_ (n := 14) (S := fun w' => w'.cell? ⟨gb332, 0, none⟩ = some (.int .u64 a1_0) ∧ w'.cell? ⟨gb332, 1, none⟩ = some (.int .u64 a1_1)) (ds := []) #[false, false, false, false, false, false, false, false, false, false, false, false, false, false] (by kernel_rfl) rfl rfl ⟨(blk_cell BK332.out 0).trans rfl, (blk_cell BK332.out 1).trans rfl⟩ (fun hHeld => ?_); refine with_tabW spec_proofIn.tab7 spec_proofIn.bits7 (fun HT_ HW_ => ?_)
    generalize w18.drew = w19 at BK332 HB hHeld ⊢
    refine pure_ (i := 0) (N := some 27) (v := ?_) (a' := ?_) #[true, false, false, false, false, false, false, false, false, false, false, false, false, false] rfl rfl (any_of HT_.out (by kernel_rfl)) (fun _ _ _ h => h) (Or.inl ⟨by rfl, ?_⟩) ?_ ?_
    rotate_left
    ·intro w'
     go_simp
     with_reducible rfl
    rotate_left
    ·simp only [Act.put, List.setIfInBounds_toArray, List.set_cons_zero, List.set_cons_succ, i64_w, i32_w]
     rfl
    refine pure_ (i := 1) (N := some 28) (v := ?_) (a' := ?_) #[true, true, false, false, false, false, false, false, false, false, false, false, false, false] rfl rfl (any_of HT_.out (by kernel_rfl)) (fun _ _ _ h => h) (Or.inl ⟨by rfl, ?_⟩) ?_ ?_
    rotate_left
    ·intro w'
     go_simp
     with_reducible rfl
    rotate_left
    ·simp only [Act.put, List.setIfInBounds_toArray, List.set_cons_zero, List.set_cons_succ, i64_w, i32_w]
     rfl
    refine pure_ (i := 3) (N := some 30) (v := ?_) (a' := ?_) #[true, true, false, true, false, false, false, false, false, false, false, false, false, false] rfl rfl (any_of HT_.out (by kernel_rfl)) (fun _ _ _ h => h) (Or.inl ⟨by rfl, ?_⟩) ?_ ?_
    rotate_left
    ·intro w'
     go_simp
     with_reducible rfl
    rotate_left
    ·simp only [Act.put, List.setIfInBounds_toArray, List.set_cons_zero, List.set_cons_succ, i64_w, i32_w]
     rfl
    refine pure_ (i := 5) (N := some 32) (v := ?_) (a' := ?_) #[true, true, false, true, false, true, false, false, false, false, false, false, false, false] rfl rfl (any_of HT_.out (by kernel_rfl)) (fun _ _ _ h => h) (Or.inl ⟨by rfl, ?_⟩) ?_ ?_
    rotate_left
    ·intro w'
     go_simp
     with_reducible rfl
    rotate_left
    ·simp only [Act.put, List.setIfInBounds_toArray, List.set_cons_zero, List.set_cons_succ, i64_w, i32_w]
     rfl
    refine pure_ (i := 7) (N := some 34) (v := ?_) (a' := ?_) #[true, true, false, true, false, true, false, true, false, false, false, false, false, false] rfl rfl (any_of HT_.out (by kernel_rfl)) (fun _ _ _ h => h) (Or.inl ⟨by rfl, ?_⟩) ?_ ?_
    rotate_left
    ·intro w'
     go_simp
     with_reducible rfl
    rotate_left
    ·simp only [Act.put, List.setIfInBounds_toArray, List.set_cons_zero, List.set_cons_succ, i64_w, i32_w]
     rfl
    refine pure_ (i := 8) (N := some 35) (v := ?_) (a' := ?_) #[true, true, false, true, false, true, false, true, true, false, false, false, false, false] rfl rfl (any_of HT_.out (by kernel_rfl)) (fun _ _ _ h => h) (Or.inl ⟨by rfl, ?_⟩) ?_ ?_
    rotate_left
    ·intro w'
     go_simp
     with_reducible rfl
    rotate_left
    ·simp only [Act.put, List.setIfInBounds_toArray, List.set_cons_zero, List.set_cons_succ, i64_w, i32_w]
     rfl
    refine take_ (i := 2) (N := some 29) (v := ?_) (a' := ?_) #[true, true, true, true, false, true, false, true, true, false, false, false, false, false] rfl rfl (take_ofW HT_.out HW_.out (by kernel_rfl)) (fun _ _ _ h => h) (Or.inl ⟨by rfl, ?_⟩) hHeld ?_ ?_
    rotate_left
    ·rintro w' ⟨s0, s1⟩
     go_simp
     with_reducible rfl
    rotate_left
    ·simp only [Act.put, List.setIfInBounds_toArray, List.set_cons_zero, List.set_cons_succ, i64_w, i32_w]
     rfl
    refine pure_ (i := 4) (N := some 31) (v := ?_) (a' := ?_) #[true, true, true, true, true, true, false, true, true, false, false, false, false, false] rfl rfl (any_of HT_.out (by kernel_rfl)) (fun _ _ _ h => h) (Or.inl ⟨by rfl, ?_⟩) ?_ ?_
    rotate_left
    ·intro w'
     go_simp
     with_reducible rfl
    rotate_left
    ·simp only [Act.put, List.setIfInBounds_toArray, List.set_cons_zero, List.set_cons_succ, i64_w, i32_w]
     rfl
    refine take_ (i := 9) (N := some 36) (v := ?_) (a' := ?_) #[true, true, true, true, true, true, false, true, true, true, false, false, false, false] rfl rfl (take_ofW HT_.out HW_.out (by kernel_rfl)) (fun _ _ _ h => h) (Or.inl ⟨by rfl, ?_⟩) hHeld ?_ ?_
    rotate_left
    ·rintro w' ⟨s0, s1⟩
     go_simp
     with_reducible rfl
    rotate_left
    ·simp only [Act.put, List.setIfInBounds_toArray, List.set_cons_zero, List.set_cons_succ, i64_w, i32_w]
     rfl
    refine pure_ (i := 10) (N := some 37) (v := ?_) (a' := ?_) #[true, true, true, true, true, true, false, true, true, true, true, false, false, false] rfl rfl (any_of HT_.out (by kernel_rfl)) (fun _ _ _ h => h) (Or.inl ⟨by rfl, ?_⟩) ?_ ?_
    rotate_left
    ·intro w'
     go_simp
     with_reducible rfl
    rotate_left
    ·simp only [Act.put, List.setIfInBounds_toArray, List.set_cons_zero, List.set_cons_succ, i64_w, i32_w]
     rfl
    refine join_ (σ := Value × Value) 2 #[true, true, true, true, true, true, true, true, true, true, true, true, false, false] (fun s_ => [(33, s_.1), (38, s_.2)]) (fun s_ w' => (w'.cell? ⟨gb332, 0, none⟩ = some (.int .u64 a1_0) ∧ w'.cell? ⟨gb332, 1, none⟩ = some (.int .u64 a1_1)) ∧ (Kd.R k53 53 w' w.heap.size (fun k_ => some k_ ≠ (s_.2 : Value).ownBlock ∧ k_ ≠ gb332) s_.1 t337) ∧ (Kd.R k53 53 w' w.heap.size (fun k_ => some k_ ≠ (s_.1 : Value).ownBlock ∧ k_ ≠ gb332) s_.2 y340) ∧ (w'.heap[gb332]? = some (.cells #[.int .u64 a1_0, .int .u64 a1_1] 53 (0, 0))) ∧ (Below w.heap.size w w')) ?_ ?_
    rotate_left
    ·intro hCont
     refine two_ (i := 6) (j := 11) (Ni := some 33) (Nj := some 38) #[true, true, true, true, true, true, true, true, true, true, true, false, false, false] #[true, true, true, true, true, true, false, true, true, true, true, true, false, false] rfl rfl rfl rfl (two_of HT_.out (by kernel_rfl)) (by decide) (by decide) (fun K hK => ?_) (fun K hK => ?_)
     ·skip
      refine goes_ Tryd.func98 (by kernel_rfl) rfl #[.int .u64 a0, .agg #[.int .u64 a1_0, .int .u64 (IntKind.u64.wrap (a1_0 + t336))], .bool a2] (by rfl) rfl rfl (by (try simp only [List.map_toArray, List.map_cons, List.map_nil]); first | rfl) ?_
      with_reducible refine (ih k (by omega) a0 a1_0 (IntKind.u64.wrap (a1_0 + t336)) a2 t337 _ A14.out).mono ?_
      rintro e w20 ⟨v338, rfl, ho0, hb⟩
      refine ⟨_, rfl, ?_⟩
      have n0_ := Aside0.mk (Kd.R_lower (Kd.R_newB ho0 (g := gb332) (o := .cells #[.int .u64 a1_0, .int .u64 a1_1] 53 (0, 0)) (by exact BK332.out)) (below_size (by repeat (first | (with_reducible first | exact HB.out)))))
      have n1_ := Aside0.mk (blk_below (g := gb332) (o := .cells #[.int .u64 a1_0, .int .u64 a1_1] 53 (0, 0)) (by exact BK332.out) hb)
      have n2_ := Aside0.mk (below_step (by repeat (first | (with_reducible first | exact HB.out))) hb)
      clear BK332
      clear HB
      have HO339 := n0_
      have BK332 := n1_
      have HB := n2_
      clear n0_ n1_ n2_
      (try clear hb)
      (try clear hb2)
      (try clear hk)
      (try clear hi)
      (try clear ho0)
      refine hK.out _ _ ⟨(blk_cell BK332.out 0).trans rfl, (blk_cell BK332.out 1).trans rfl⟩ (fun hHeld => ?_)
      clear hK K
      refine norm_ (a' := ?_) ?_ ?_
      rotate_left
      ·show Act.put _ (some 33) _ = _
       simp only [Act.put, List.setIfInBounds_toArray, List.set_cons_zero, List.set_cons_succ, i64_w, i32_w]
       rfl
      refine one_ (i := 11) (N := some 38) #[true, true, true, true, true, true, true, true, true, true, true, true, false, false] rfl rfl (one_of HT_.out (by kernel_rfl)) (by decide) (fun K hK => ?_)
      refine Kd.R_lit_step k53 _ 53 ?hg (N := 38) ?hd (xs := ([(⟨IntKind.u64.wrap (a1_0 + t336), a1_1⟩ : S53)] : List (S53))) (inner := [.int .u64 (IntKind.u64.wrap (a1_0 + t336)), .int .u64 a1_1]) (ok := fun _ => True) (okp := fun _ => True) ?hr ?hp (fun _ hk => hk) trivial (Below.refl _ _) (Nat.le_refl _) (by simp) ?_; (case hd => rfl); (case hg => rfl); (case hr => first | (go_simp; done)); (case hp => exact (Reps.c2 (show Kd.M k53 _ _ _ (⟨IntKind.u64.wrap (a1_0 + t336), a1_1⟩ : S53) [.int .u64 (IntKind.u64.wrap (a1_0 + t336)), .int .u64 a1_1] from (k53_mkM _ _ _ (⟨IntKind.u64.wrap (a1_0 + t336), a1_1⟩ : S53) )) (Reps.none _ _)))
      intro v341 w21 ho22 hb hg_ hnew_
      clear hg_ hnew_
      (first | rw [← Ny340.out] at ho22)
      have n0_ := Aside0.mk (Kd.R_elder' (by exact HO339.out) (Kd.R_base ho22) hb)
      have n1_ := Aside0.mk (Kd.R_lower (Kd.R_newB (Kd.R_new' ho22 (Kd.R_lt (by exact HO339.out))) (g := gb332) (o := .cells #[.int .u64 a1_0, .int .u64 a1_1] 53 (0, 0)) (by exact BK332.out)) (below_size (by repeat (first | (with_reducible first | exact HB.out)))))
      have n2_ := Aside0.mk (blk_below (g := gb332) (o := .cells #[.int .u64 a1_0, .int .u64 a1_1] 53 (0, 0)) (by exact BK332.out) hb)
      have n3_ := Aside0.mk (below_step (by repeat (first | (with_reducible first | exact HB.out))) hb)
      clear HO339
      clear BK332
      clear HB
      have HO339 := n0_
      have HO342 := n1_
      have BK332 := n2_
      have HB := n3_
      clear n0_ n1_ n2_ n3_
      clear hb ho22
      refine hK.out _ _ ⟨(blk_cell BK332.out 0).trans rfl, (blk_cell BK332.out 1).trans rfl⟩ (fun hHeld => ?_)
      clear hK K
      refine norm_ (a' := ?_) ?_ ?_
      rotate_left
      ·show Act.put _ (some 38) _ = _
       simp only [Act.put, List.setIfInBounds_toArray, List.set_cons_zero, List.set_cons_succ, i64_w, i32_w]
       rfl
      exact norm_ (by simp only [putAll, Act.put, List.setIfInBounds_toArray, List.set_cons_zero, List.set_cons_succ]) (hCont (v338, v341) _ ⟨hHeld, (by exact Kd.R_mono HO339.out (fun _ hk => ⟨hk.2, hk.1.2⟩)), (by exact Kd.R_mono HO342.out (fun _ hk => ⟨hk.1.2, hk.2⟩)), (by exact BK332.out), (by repeat (first | (with_reducible first | exact HB.out)))⟩)
     ·skip
      refine Kd.R_lit_step k53 _ 53 ?hg (N := 38) ?hd (xs := ([(⟨IntKind.u64.wrap (a1_0 + t336), a1_1⟩ : S53)] : List (S53))) (inner := [.int .u64 (IntKind.u64.wrap (a1_0 + t336)), .int .u64 a1_1]) (ok := fun _ => True) (okp := fun _ => True) ?hr ?hp (fun _ hk => hk) trivial (Below.refl _ _) (Nat.le_refl _) (by simp) ?_; (case hd => rfl); (case hg => rfl); (case hr => first | (go_simp; done)); (case hp => exact (Reps.c2 (show Kd.M k53 _ _ _ (⟨IntKind.u64.wrap (a1_0 + t336), a1_1⟩ : S53) [.int .u64 (IntKind.u64.wrap (a1_0 + t336)), .int .u64 a1_1] from (k53_mkM _ _ _ (⟨IntKind.u64.wrap (a1_0 + t336), a1_1⟩ : S53) )) (Reps.none _ _)))
      intro v341 w20 ho21 hb hg_ hnew_
      clear hg_ hnew_
      (first | rw [← Ny340.out] at ho21)
      have n0_ := Aside0.mk (Kd.R_lower (Kd.R_newB ho21 (g := gb332) (o := .cells #[.int .u64 a1_0, .int .u64 a1_1] 53 (0, 0)) (by exact BK332.out)) (below_size (by repeat (first | (with_reducible first | exact HB.out)))))
      have n1_ := Aside0.mk (blk_below (g := gb332) (o := .cells #[.int .u64 a1_0, .int .u64 a1_1] 53 (0, 0)) (by exact BK332.out) hb)
      have n2_ := Aside0.mk (below_step (by repeat (first | (with_reducible first | exact HB.out))) hb)
      clear BK332
      clear HB
      have HO342 := n0_
      have BK332 := n1_
      have HB := n2_
      clear n0_ n1_ n2_
      clear hb ho21
      refine hK.out _ _ ⟨(blk_cell BK332.out 0).trans rfl, (blk_cell BK332.out 1).trans rfl⟩ (fun hHeld => ?_)
      clear hK K
      refine norm_ (a' := ?_) ?_ ?_
      rotate_left
      ·show Act.put _ (some 38) _ = _
       simp only [Act.put, List.setIfInBounds_toArray, List.set_cons_zero, List.set_cons_succ, i64_w, i32_w]
       rfl
      refine one_ (i := 6) (N := some 33) #[true, true, true, true, true, true, true, true, true, true, true, true, false, false] rfl rfl (one_of HT_.out (by kernel_rfl)) (by decide) (fun K hK => ?_)
      refine goes_ Tryd.func98 (by kernel_rfl) rfl #[.int .u64 a0, .agg #[.int .u64 a1_0, .int .u64 (IntKind.u64.wrap (a1_0 + t336))], .bool a2] (by rfl) rfl rfl (by (try simp only [List.map_toArray, List.map_cons, List.map_nil]); first | rfl) ?_
      with_reducible refine (ih k (by omega) a0 a1_0 (IntKind.u64.wrap (a1_0 + t336)) a2 t337 _ A14.out).mono ?_
      rintro e w22 ⟨v338, rfl, ho0, hb⟩
      refine ⟨_, rfl, ?_⟩
      have n0_ := Aside0.mk (Kd.R_elder' (by exact HO342.out) (Kd.R_base ho0) hb)
      have n1_ := Aside0.mk (Kd.R_lower (Kd.R_newB (Kd.R_new' ho0 (Kd.R_lt (by exact HO342.out))) (g := gb332) (o := .cells #[.int .u64 a1_0, .int .u64 a1_1] 53 (0, 0)) (by exact BK332.out)) (below_size (by repeat (first | (with_reducible first | exact HB.out)))))
      have n2_ := Aside0.mk (blk_below (g := gb332) (o := .cells #[.int .u64 a1_0, .int .u64 a1_1] 53 (0, 0)) (by exact BK332.out) hb)
      have n3_ := Aside0.mk (below_step (by repeat (first | (with_reducible first | exact HB.out))) hb)
      clear HO342
      clear BK332
      clear HB
      have HO342 := n0_
      have HO339 := n1_
      have BK332 := n2_
      have HB := n3_
      clear n0_ n1_ n2_ n3_
      (try clear hb)
      (try clear hb2)
      (try clear hk)
      (try clear hi)
      (try clear ho0)
      refine hK.out _ _ ⟨(blk_cell BK332.out 0).trans rfl, (blk_cell BK332.out 1).trans rfl⟩ (fun hHeld => ?_)
      clear hK K
      refine norm_ (a' := ?_) ?_ ?_
      rotate_left
      ·show Act.put _ (some 33) _ = _
       simp only [Act.put, List.setIfInBounds_toArray, List.set_cons_zero, List.set_cons_succ, i64_w, i32_w]
       rfl
      exact norm_ (by simp only [putAll, Act.put, List.setIfInBounds_toArray, List.set_cons_zero, List.set_cons_succ]) (hCont (v338, v341) _ ⟨hHeld, (by exact Kd.R_mono HO339.out (fun _ hk => ⟨hk.1.2, hk.2⟩)), (by exact Kd.R_mono HO342.out (fun _ hk => ⟨hk.2, hk.1.2⟩)), (by exact BK332.out), (by repeat (first | (with_reducible first | exact HB.out)))⟩)
    rintro ⟨v338, v341⟩ w23 ⟨hS_, h0_, h1_, h2_, h3_⟩
    have n0_ : Aside0 (Kd.R k53 53 w23 w.heap.size (fun k_ => some k_ ≠ (v341 : Value).ownBlock ∧ k_ ≠ gb332) v338 t337) := ⟨h0_⟩
    have n1_ : Aside0 (Kd.R k53 53 w23 w.heap.size (fun k_ => some k_ ≠ (v338 : Value).ownBlock ∧ k_ ≠ gb332) v341 y340) := ⟨h1_⟩
    have n2_ : Aside0 (w23.heap[gb332]? = some (.cells #[.int .u64 a1_0, .int .u64 a1_1] 53 (0, 0))) := ⟨h2_⟩
    have n3_ : Aside0 (Below w.heap.size w w23) := ⟨h3_⟩
    clear BK332
    clear HB
    clear h0_ h1_ h2_ h3_
    have HO339 := n0_
    have HO342 := n1_
    have BK332 := n2_
    have HB := n3_
    clear n0_ n1_ n2_ n3_
    have hHeld : w23.cell? ⟨gb332, 0, none⟩ = some (.int .u64 a1_0) ∧ w23.cell? ⟨gb332, 1, none⟩ = some (.int .u64 a1_1) := hS_
    obtain ⟨Ao25, co25, eo25⟩ := Kd.R_slice HO342.out
    (first | subst eo25)
    refine norm_ (a' := ?_) ?_ ?_
    rotate_left
    ·simp only [putAll, Act.put, List.setIfInBounds_toArray, List.set_cons_zero, List.set_cons_succ]
     rfl
    refine one_ (i := 12) (N := some 39) #[true, true, true, true, true, true, true, true, true, true, true, true, true, false] rfl rfl (one_of HT_.out (by kernel_rfl)) (by decide) (fun K hK => ?_)
    refine Kd.R_append_rows_step k53 (w0 := w) w.heap.size (by rfl) (.tmp 33) (.tmp 38) 118 53 (.agg #[(.int .u64 0), (.int .u64 0)]) 16 rfl Tryd.underlying118 info53 rfl (by decide) (by omega) v338 t337 y340 _ _ _ (fun k_ => some k_ ≠ (.slice Ao25 y340.length co25 : Value).ownBlock ∧ k_ ≠ gb332) (fun _ => False) rfl rfl ?aO ?aR (fun _ _ h => h) (fun _ h => h.elim) ?aF ?aB ?aS ?aL ?_
    (case aR => repeat (first | exact (Kd.R_reads' HO342.out).2.2))
    (case aB => exact (by repeat (first | (with_reducible first | exact HB.out))))
    (case aF => exact (fun k_ hk => ⟨Kd.fresh' (Kd.R_lt (by exact HO342.out)) k_ hk, Kd.freshB (g := gb332) (o := .cells #[.int .u64 a1_0, .int .u64 a1_1] 53 (0, 0)) (by exact BK332.out) k_ hk⟩))
    (case aO => exact (by exact HO339.out))
    (case aS => exact (below_size (by repeat (first | (with_reducible first | exact HB.out)))))
    (case aL => have := LMc15.out; omega)
    intro v344 w24 ho hb hg hat
    rw [← Ny343.out] at ho
    have n0_ := Aside0.mk (blk_grown (g := gb332) (o := .cells #[.int .u64 a1_0, .int .u64 a1_1] 53 (0, 0)) (by exact BK332.out) hg (Kd.R_away HO339.out (fun _ hk => hk.2)))
    have n1_ := Aside0.mk (Kd.R_after (ok := (fun k_ => k_ ≠ gb332)) (by exact Kd.R_mono HO342.out (fun _ hk => ⟨hk.2, hk.1⟩)) hg hat)
    have n2_ := Aside0.mk (hb)
    have n3_ := Aside0.mk (ho)
    clear BK332
    clear HO342
    clear HB
    clear HO339
    have BK332 := n0_
    have HO342 := n1_
    have HB := n2_
    have HO345 := n3_
    clear n0_ n1_ n2_ n3_
    clear ho hb hg hat
    refine hK.out _ _ ⟨(blk_cell BK332.out 0).trans rfl, (blk_cell BK332.out 1).trans rfl⟩ (fun hHeld => ?_)
    clear hK K
    refine norm_ (a' := ?_) ?_ ?_
    rotate_left
    ·show Act.put _ (some 39) _ = _
     simp only [Act.put, List.setIfInBounds_toArray, List.set_cons_zero, List.set_cons_succ, i64_w, i32_w]
     rfl
    refine pure_ (i := 13) (N := some 6) (v := ?_) (a' := ?_) #[true, true, true, true, true, true, true, true, true, true, true, true, true, true] rfl rfl (any_of HT_.out (by kernel_rfl)) (fun _ _ _ h => h) (Or.inl ⟨by rfl, ?_⟩) ?_ ?_
    rotate_left
    ·intro w'
     go_simp
     with_reducible rfl
    rotate_left
    ·simp only [Act.put, List.setIfInBounds_toArray, List.set_cons_zero, List.set_cons_succ, i64_w, i32_w]
     rfl
    refine done_ (done_of HT_.out (by kernel_rfl)) ?_
    try go_wp2
    go_ret
    exact ⟨_, by first | rfl, by exact Kd.R_mono HO345.out (fun _ hk => trivial), by repeat (first | (with_reducible first | exact HB.out))⟩
   ·rw [if_neg c15] at H
    exact absurd H (by simp)
  ·rw [if_neg c13] at H
   have c13b0 : decide (a0 ≤ (IntKind.u64.wrap (a1_0 + t336))) = false := decide_eq_false c13
   clear c13
   replace H := Option.bind_eq_some_iff.mp H
   obtain ⟨t346, A260, H⟩ := H
   replace H : ((some (([(⟨a1_0, IntKind.u64.wrap (a1_0 + t336)⟩ : S53)] : List (S53)) : List (S53))).bind fun y349 => (if t346.length + y349.length < 8796093022208 then (some (t346 ++ y349)) else (none))) = some r := H
   have A26 := Aside0.mk A260
   clear A260
   obtain ⟨y349, hy349⟩ : ∃ y_ : List (S53), y_ = (([(⟨a1_0, IntKind.u64.wrap (a1_0 + t336)⟩ : S53)] : List (S53))) := ⟨_, rfl⟩
   replace H : (if t346.length + y349.length < 8796093022208 then (some (t346 ++ y349)) else (none)) = some r := by first | (have H2_ := (Option.bind_some _ _).symm.trans H; rw [hy349]; with_reducible exact H2_)
   have Ny349 := Aside0.mk hy349
   clear hy349
   by_cases c27 : t346.length + y349.length < 8796093022208
   ·rw [if_pos c27] at H
    have LMc27 := Aside0.mk c27
    clear c27
    obtain ⟨y352, hy352⟩ : ∃ y_ : List (S53), y_ = (t346 ++ y349) := ⟨_, rfl⟩
    replace H : (some y352) = some r := by first | (rw [hy352]; with_reducible exact H)
    have Ny352 := Aside0.mk hy352
    clear hy352
    obtain rfl := Option.some.inj H
    go_enter Tryd.func98, Tryd.ntmps98
    try go_wp2_with (first | ((with_reducible refine gate_dst (N := 4) rfl ?_); refine box_event ?hg (N := 4) ?hd (cs := #[.int .u64 a1_0, .int .u64 a1_1]) (t := 53) ?hr ?_; (case hd => rfl); (case hg => rfl); (case hr => first | (go_simp; done)); intro gb332 hg w28 hbox hb; have n0_ := Aside0.mk (below_step (by repeat (first | (with_reducible first | exact HB.out))) hb); have n1_ := Aside0.mk (hbox); have n2_ := Aside0.mk ((by rw [hg]; exact (below_size (by repeat (first | (with_reducible first | exact HB.out)))) : w.heap.size ≤ gb332)); have n3_ := Aside0.mk ((by rw [hg]; exact (below_size (by repeat (first | (with_reducible first | exact HB.out)))) : w.heap.size ≤ gb332)); clear HB; have HB := n0_; have BK332 := n1_; have GW332 := n2_; have GE332 := n3_; clear n0_ n1_ n2_ n3_; clear hb hbox hg; have hcz29_0 : w28.cell? ⟨gb332, 0, none⟩ = some (.int .u64 a1_0) := (blk_cell BK332.out 0).trans rfl; have hcz29_1 : w28.cell? ⟨gb332, 1, none⟩ = some (.int .u64 a1_1) := (blk_cell BK332.out 1).trans rfl; have hfz29_0 := blk_frozen BK332.out 0; have hfz29_1 := blk_frozen BK332.out 1))
    (try (rw [drewN_self w28]; generalize hq_ : World.drewN w28 _ = w28; have n0_ : Aside0 (w28.heap[gb332]? = some (.cells #[.int .u64 a1_0, .int .u64 a1_1] 53 (0, 0))) := ⟨by rw [← hq_]; exact (by exact BK332.out)⟩; have n1_ : Aside0 (Below w.heap.size w w28) := ⟨by rw [← hq_]; exact (by repeat (first | exact HB.out))⟩; clear BK332 HB hq_; have BK332 := n0_; have HB := n1_; clear n0_ n1_))
    have n0_ := Aside0.mk (blk_drew BK332.out)
    have n1_ := Aside0.mk (below_drew1 HB.out)
    clear BK332
    clear HB
    have BK332 := n0_
    have HB := n1_
    clear n0_ n1_
    refine start_ (n := 10) (S := fun w' => w'.cell? ⟨gb332, 0, none⟩ = some (.int .u64 a1_0) ∧ w'.cell? ⟨gb332, 1, none⟩ = some (.int .u64 a1_1)) (ds := []) #[false, false, false, false, false, false, false, false, false, false] (by kernel_rfl) rfl rfl ⟨(blk_cell BK332.out 0).trans rfl, (blk_cell BK332.out 1).trans rfl⟩ (fun hHeld => ?_); refine with_tabW spec_proofIn.tab5 spec_proofIn.bits5 (fun HT_ HW_ => ?_)
    generalize w28.drew = w30 at BK332 HB hHeld ⊢
    refine pure_ (i := 0) (N := some 15) (v := ?_) (a' := ?_) #[true, false, false, false, false, false, false, false, false, false] rfl rfl (any_of HT_.out (by kernel_rfl)) (fun _ _ _ h => h) (Or.inl ⟨by rfl, ?_⟩) ?_ ?_
    rotate_left
    ·intro w'
     go_simp
     with_reducible rfl
    rotate_left
    ·simp only [Act.put, List.setIfInBounds_toArray, List.set_cons_zero, List.set_cons_succ, i64_w, i32_w]
     rfl
    refine pure_ (i := 2) (N := some 17) (v := ?_) (a' := ?_) #[true, false, true, false, false, false, false, false, false, false] rfl rfl (any_of HT_.out (by kernel_rfl)) (fun _ _ _ h => h) (Or.inl ⟨by rfl, ?_⟩) ?_ ?_
    rotate_left
    ·intro w'
     go_simp
     with_reducible rfl
    rotate_left
    ·simp only [Act.put, List.setIfInBounds_toArray, List.set_cons_zero, List.set_cons_succ, i64_w, i32_w]
     rfl
    refine pure_ (i := 4) (N := some 19) (v := ?_) (a' := ?_) #[true, false, true, false, true, false, false, false, false, false] rfl rfl (any_of HT_.out (by kernel_rfl)) (fun _ _ _ h => h) (Or.inl ⟨by rfl, ?_⟩) ?_ ?_
    rotate_left
    ·intro w'
     go_simp
     with_reducible rfl
    rotate_left
    ·simp only [Act.put, List.setIfInBounds_toArray, List.set_cons_zero, List.set_cons_succ, i64_w, i32_w]
     rfl
    refine take_ (i := 1) (N := some 16) (v := ?_) (a' := ?_) #[true, true, true, false, true, false, false, false, false, false] rfl rfl (take_ofW HT_.out HW_.out (by kernel_rfl)) (fun _ _ _ h => h) (Or.inl ⟨by rfl, ?_⟩) hHeld ?_ ?_
    rotate_left
    ·rintro w' ⟨s0, s1⟩
     go_simp
     with_reducible rfl
    rotate_left
    ·simp only [Act.put, List.setIfInBounds_toArray, List.set_cons_zero, List.set_cons_succ, i64_w, i32_w]
     rfl
    refine take_ (i := 3) (N := some 18) (v := ?_) (a' := ?_) #[true, true, true, true, true, false, false, false, false, false] rfl rfl (take_ofW HT_.out HW_.out (by kernel_rfl)) (fun _ _ _ h => h) (Or.inl ⟨by rfl, ?_⟩) hHeld ?_ ?_
    rotate_left
    ·rintro w' ⟨s0, s1⟩
     go_simp
     with_reducible rfl
    rotate_left
    ·simp only [Act.put, List.setIfInBounds_toArray, List.set_cons_zero, List.set_cons_succ, i64_w, i32_w]
     rfl
    refine take_ (i := 5) (N := some 20) (v := ?_) (a' := ?_) #[true, true, true, true, true, true, false, false, false, false] rfl rfl (take_ofW HT_.out HW_.out (by kernel_rfl)) (fun _ _ _ h => h) (Or.inl ⟨by rfl, ?_⟩) hHeld ?_ ?_
    rotate_left
    ·rintro w' ⟨s0, s1⟩
     go_simp
     with_reducible rfl
    rotate_left
    ·simp only [Act.put, List.setIfInBounds_toArray, List.set_cons_zero, List.set_cons_succ, i64_w, i32_w]
     rfl
    refine pure_ (i := 6) (N := some 21) (v := ?_) (a' := ?_) #[true, true, true, true, true, true, true, false, false, false] rfl rfl (any_of HT_.out (by kernel_rfl)) (fun _ _ _ h => h) (Or.inl ⟨by rfl, ?_⟩) ?_ ?_
    rotate_left
    ·intro w'
     go_simp
     with_reducible rfl
    rotate_left
    ·simp only [Act.put, List.setIfInBounds_toArray, List.set_cons_zero, List.set_cons_succ, i64_w, i32_w]
     rfl
    refine one_ (i := 7) (N := some 22) #[true, true, true, true, true, true, true, true, false, false] rfl rfl (one_of HT_.out (by kernel_rfl)) (by decide) (fun K hK => ?_)
    refine goes_ Tryd.func48 (by kernel_rfl) rfl #[.int .u64 (IntKind.u64.wrap (a1_1 - a1_0))] (by rfl) rfl rfl (by (try simp only [List.map_toArray, List.map_cons, List.map_nil]); first | rfl) ?_
    with_reducible refine (spec_split.calls k (IntKind.u64.wrap (a1_1 - a1_0)) t336 _ A12.out).mono ?_
    rintro e w' ⟨rfl, ⟨nd, rfl⟩⟩
    refine ⟨_, rfl, ?_⟩
    refine hK.out _ _ ⟨(blk_cell BK332.out 0).trans rfl, (blk_cell BK332.out 1).trans rfl⟩ (fun hHeld => ?_)
    clear hK K
    refine norm_ (a' := ?_) ?_ ?_
    rotate_left
    ·show Act.put _ (some 22) _ = _
     simp only [Act.put, List.setIfInBounds_toArray, List.set_cons_zero, List.set_cons_succ, i64_w, i32_w]
     rfl
    refine pure_ (i := 8) (N := some 23) (v := ?_) (a' := ?_) #[true, true, true, true, true, true, true, true, true, false] rfl rfl (any_of HT_.out (by kernel_rfl)) (fun _ _ _ h => h) (Or.inl ⟨by rfl, ?_⟩) ?_ ?_
    rotate_left
    ·intro w'
     go_simp
     with_reducible rfl
    rotate_left
    ·simp only [Act.put, List.setIfInBounds_toArray, List.set_cons_zero, List.set_cons_succ, i64_w, i32_w]
     rfl
    refine pure_ (i := 9) (N := some 7) (v := ?_) (a' := ?_) #[true, true, true, true, true, true, true, true, true, true] rfl rfl (any_of HT_.out (by kernel_rfl)) (fun _ _ _ h => h) (Or.inl ⟨by rfl, ?_⟩) ?_ ?_
    rotate_left
    ·intro w'
     go_simp
     with_reducible rfl
    rotate_left
    ·simp only [Act.put, List.setIfInBounds_toArray, List.set_cons_zero, List.set_cons_succ, i64_w, i32_w]
     rfl
    refine done_ (done_of HT_.out (by kernel_rfl)) ?_
    try go_wp2
    (try (rw [drewN_self w30]; generalize hq_ : World.drewN w30 _ = w30; have n0_ : Aside0 (w30.heap[gb332]? = some (.cells #[.int .u64 a1_0, .int .u64 a1_1] 53 (0, 0))) := ⟨by rw [← hq_]; exact (by (with_reducible repeat (first | refine blk_drewN ?_ _)); exact BK332.out)⟩; have n1_ : Aside0 (Below w.heap.size w w30) := ⟨by rw [← hq_]; exact (by repeat (first | (with_reducible first | exact HB.out | apply pw_below_drewN)))⟩; clear BK332 HB hq_; have BK332 := n0_; have HB := n1_; clear n0_ n1_))
    have n0_ := Aside0.mk (blk_drew BK332.out)
    have n1_ := Aside0.mk (below_drew1 HB.out)
    clear BK332
    clear HB
    have BK332 := n0_
    have HB := n1_
    clear n0_ n1_
    refine start_ (n := 13) (S := fun w' => w'.cell? ⟨gb332, 0, none⟩ = some (.int .u64 a1_0) ∧ w'.cell? ⟨gb332, 1, none⟩ = some (.int .u64 a1_1)) (ds := []) #[false, false, false, false, false, false, false, false, false, false, false, false, false] (by kernel_rfl) rfl rfl ⟨(blk_cell BK332.out 0).trans rfl, (blk_cell BK332.out 1).trans rfl⟩ (fun hHeld => ?_); refine with_tabW spec_proofIn.tab8 spec_proofIn.bits8 (fun HT_ HW_ => ?_)
    generalize w30.drew = w31 at BK332 HB hHeld ⊢
    refine pure_ (i := 0) (N := some 40) (v := ?_) (a' := ?_) #[true, false, false, false, false, false, false, false, false, false, false, false, false] rfl rfl (any_of HT_.out (by kernel_rfl)) (fun _ _ _ h => h) (Or.inl ⟨by rfl, ?_⟩) ?_ ?_
    rotate_left
    ·intro w'
     go_simp
     with_reducible rfl
    rotate_left
    ·simp only [Act.put, List.setIfInBounds_toArray, List.set_cons_zero, List.set_cons_succ, i64_w, i32_w]
     rfl
    refine pure_ (i := 1) (N := some 41) (v := ?_) (a' := ?_) #[true, true, false, false, false, false, false, false, false, false, false, false, false] rfl rfl (any_of HT_.out (by kernel_rfl)) (fun _ _ _ h => h) (Or.inl ⟨by rfl, ?_⟩) ?_ ?_
    rotate_left
    ·intro w'
     go_simp
     with_reducible rfl
    rotate_left
    ·simp only [Act.put, List.setIfInBounds_toArray, List.set_cons_zero, List.set_cons_succ, i64_w, i32_w]
     rfl
    refine pure_ (i := 2) (N := some 42) (v := ?_) (a' := ?_) #[true, true, true, false, false, false, false, false, false, false, false, false, false] rfl rfl (any_of HT_.out (by kernel_rfl)) (fun _ _ _ h => h) (Or.inl ⟨by rfl, ?_⟩) ?_ ?_
    rotate_left
    ·intro w'
     go_simp
     with_reducible rfl
    rotate_left
    ·simp only [Act.put, List.setIfInBounds_toArray, List.set_cons_zero, List.set_cons_succ, i64_w, i32_w]
     rfl
    refine pure_ (i := 6) (N := some 46) (v := ?_) (a' := ?_) #[true, true, true, false, false, false, true, false, false, false, false, false, false] rfl rfl (any_of HT_.out (by kernel_rfl)) (fun _ _ _ h => h) (Or.inl ⟨by rfl, ?_⟩) ?_ ?_
    rotate_left
    ·intro w'
     go_simp
     with_reducible rfl
    rotate_left
    ·simp only [Act.put, List.setIfInBounds_toArray, List.set_cons_zero, List.set_cons_succ, i64_w, i32_w]
     rfl
    refine pure_ (i := 8) (N := some 48) (v := ?_) (a' := ?_) #[true, true, true, false, false, false, true, false, true, false, false, false, false] rfl rfl (any_of HT_.out (by kernel_rfl)) (fun _ _ _ h => h) (Or.inl ⟨by rfl, ?_⟩) ?_ ?_
    rotate_left
    ·intro w'
     go_simp
     with_reducible rfl
    rotate_left
    ·simp only [Act.put, List.setIfInBounds_toArray, List.set_cons_zero, List.set_cons_succ, i64_w, i32_w]
     rfl
    refine take_ (i := 3) (N := some 43) (v := ?_) (a' := ?_) #[true, true, true, true, false, false, true, false, true, false, false, false, false] rfl rfl (take_ofW HT_.out HW_.out (by kernel_rfl)) (fun _ _ _ h => h) (Or.inl ⟨by rfl, ?_⟩) hHeld ?_ ?_
    rotate_left
    ·rintro w' ⟨s0, s1⟩
     go_simp
     with_reducible rfl
    rotate_left
    ·simp only [Act.put, List.setIfInBounds_toArray, List.set_cons_zero, List.set_cons_succ, i64_w, i32_w]
     rfl
    refine pure_ (i := 4) (N := some 44) (v := ?_) (a' := ?_) #[true, true, true, true, true, false, true, false, true, false, false, false, false] rfl rfl (any_of HT_.out (by kernel_rfl)) (fun _ _ _ h => h) (Or.inl ⟨by rfl, ?_⟩) ?_ ?_
    rotate_left
    ·intro w'
     go_simp
     with_reducible rfl
    rotate_left
    ·simp only [Act.put, List.setIfInBounds_toArray, List.set_cons_zero, List.set_cons_succ, i64_w, i32_w]
     rfl
    refine take_ (i := 7) (N := some 47) (v := ?_) (a' := ?_) #[true, true, true, true, true, false, true, true, true, false, false, false, false] rfl rfl (take_ofW HT_.out HW_.out (by kernel_rfl)) (fun _ _ _ h => h) (Or.inl ⟨by rfl, ?_⟩) hHeld ?_ ?_
    rotate_left
    ·rintro w' ⟨s0, s1⟩
     go_simp
     with_reducible rfl
    rotate_left
    ·simp only [Act.put, List.setIfInBounds_toArray, List.set_cons_zero, List.set_cons_succ, i64_w, i32_w]
     rfl
    refine pure_ (i := 9) (N := some 49) (v := ?_) (a' := ?_) #[true, true, true, true, true, false, true, true, true, true, false, false, false] rfl rfl (any_of HT_.out (by kernel_rfl)) (fun _ _ _ h => h) (Or.inl ⟨by rfl, ?_⟩) ?_ ?_
    rotate_left
    ·intro w'
     go_simp
     with_reducible rfl
    rotate_left
    ·simp only [Act.put, List.setIfInBounds_toArray, List.set_cons_zero, List.set_cons_succ, i64_w, i32_w]
     rfl
    refine join_ (σ := Value × Value) 2 #[true, true, true, true, true, true, true, true, true, true, true, false, false] (fun s_ => [(45, s_.1), (50, s_.2)]) (fun s_ w' => (w'.cell? ⟨gb332, 0, none⟩ = some (.int .u64 a1_0) ∧ w'.cell? ⟨gb332, 1, none⟩ = some (.int .u64 a1_1)) ∧ (Kd.R k53 53 w' w.heap.size (fun k_ => some k_ ≠ (s_.2 : Value).ownBlock ∧ k_ ≠ gb332) s_.1 t346) ∧ (Kd.R k53 53 w' w.heap.size (fun k_ => some k_ ≠ (s_.1 : Value).ownBlock ∧ k_ ≠ gb332) s_.2 y349) ∧ (w'.heap[gb332]? = some (.cells #[.int .u64 a1_0, .int .u64 a1_1] 53 (0, 0))) ∧ (Below w.heap.size w w')) ?_ ?_
    rotate_left
    ·intro hCont
     refine two_ (i := 5) (j := 10) (Ni := some 45) (Nj := some 50) #[true, true, true, true, true, true, true, true, true, true, false, false, false] #[true, true, true, true, true, false, true, true, true, true, true, false, false] rfl rfl rfl rfl (two_of HT_.out (by kernel_rfl)) (by decide) (by decide) (fun K hK => ?_) (fun K hK => ?_)
     ·skip
      refine goes_ Tryd.func98 (by kernel_rfl) rfl #[.int .u64 a0, .agg #[.int .u64 (IntKind.u64.wrap (a1_0 + t336)), .int .u64 a1_1], .bool false] (by rfl) rfl rfl (by (try simp only [List.map_toArray, List.map_cons, List.map_nil]); first | rfl) ?_
      with_reducible refine (ih k (by omega) a0 (IntKind.u64.wrap (a1_0 + t336)) a1_1 false t346 _ A26.out).mono ?_
      rintro e w32 ⟨v347, rfl, ho0, hb⟩
      refine ⟨_, rfl, ?_⟩
      have n0_ := Aside0.mk (Kd.R_lower (Kd.R_newB ho0 (g := gb332) (o := .cells #[.int .u64 a1_0, .int .u64 a1_1] 53 (0, 0)) (by exact BK332.out)) (below_size (by repeat (first | (with_reducible first | exact HB.out)))))
      have n1_ := Aside0.mk (blk_below (g := gb332) (o := .cells #[.int .u64 a1_0, .int .u64 a1_1] 53 (0, 0)) (by exact BK332.out) hb)
      have n2_ := Aside0.mk (below_step (by repeat (first | (with_reducible first | exact HB.out))) hb)
      clear BK332
      clear HB
      have HO348 := n0_
      have BK332 := n1_
      have HB := n2_
      clear n0_ n1_ n2_
      (try clear hb)
      (try clear hb2)
      (try clear hk)
      (try clear hi)
      (try clear ho0)
      refine hK.out _ _ ⟨(blk_cell BK332.out 0).trans rfl, (blk_cell BK332.out 1).trans rfl⟩ (fun hHeld => ?_)
      clear hK K
      refine norm_ (a' := ?_) ?_ ?_
      rotate_left
      ·show Act.put _ (some 45) _ = _
       simp only [Act.put, List.setIfInBounds_toArray, List.set_cons_zero, List.set_cons_succ, i64_w, i32_w]
       rfl
      refine one_ (i := 10) (N := some 50) #[true, true, true, true, true, true, true, true, true, true, true, false, false] rfl rfl (one_of HT_.out (by kernel_rfl)) (by decide) (fun K hK => ?_)
      refine Kd.R_lit_step k53 _ 53 ?hg (N := 50) ?hd (xs := ([(⟨a1_0, IntKind.u64.wrap (a1_0 + t336)⟩ : S53)] : List (S53))) (inner := [.int .u64 a1_0, .int .u64 (IntKind.u64.wrap (a1_0 + t336))]) (ok := fun _ => True) (okp := fun _ => True) ?hr ?hp (fun _ hk => hk) trivial (Below.refl _ _) (Nat.le_refl _) (by simp) ?_; (case hd => rfl); (case hg => rfl); (case hr => first | (go_simp; done)); (case hp => exact (Reps.c2 (show Kd.M k53 _ _ _ (⟨a1_0, IntKind.u64.wrap (a1_0 + t336)⟩ : S53) [.int .u64 a1_0, .int .u64 (IntKind.u64.wrap (a1_0 + t336))] from (k53_mkM _ _ _ (⟨a1_0, IntKind.u64.wrap (a1_0 + t336)⟩ : S53) )) (Reps.none _ _)))
      intro v350 w33 ho34 hb hg_ hnew_
      clear hg_ hnew_
      (first | rw [← Ny349.out] at ho34)
      have n0_ := Aside0.mk (Kd.R_elder' (by exact HO348.out) (Kd.R_base ho34) hb)
      have n1_ := Aside0.mk (Kd.R_lower (Kd.R_newB (Kd.R_new' ho34 (Kd.R_lt (by exact HO348.out))) (g := gb332) (o := .cells #[.int .u64 a1_0, .int .u64 a1_1] 53 (0, 0)) (by exact BK332.out)) (below_size (by repeat (first | (with_reducible first | exact HB.out)))))
      have n2_ := Aside0.mk (blk_below (g := gb332) (o := .cells #[.int .u64 a1_0, .int .u64 a1_1] 53 (0, 0)) (by exact BK332.out) hb)
      have n3_ := Aside0.mk (below_step (by repeat (first | (with_reducible first | exact HB.out))) hb)
      clear HO348
      clear BK332
      clear HB
      have HO348 := n0_
      have HO351 := n1_
      have BK332 := n2_
      have HB := n3_
      clear n0_ n1_ n2_ n3_
      clear hb ho34
      refine hK.out _ _ ⟨(blk_cell BK332.out 0).trans rfl, (blk_cell BK332.out 1).trans rfl⟩ (fun hHeld => ?_)
      clear hK K
      refine norm_ (a' := ?_) ?_ ?_
      rotate_left
      ·show Act.put _ (some 50) _ = _
       simp only [Act.put, List.setIfInBounds_toArray, List.set_cons_zero, List.set_cons_succ, i64_w, i32_w]
       rfl
      exact norm_ (by simp only [putAll, Act.put, List.setIfInBounds_toArray, List.set_cons_zero, List.set_cons_succ]) (hCont (v347, v350) _ ⟨hHeld, (by exact Kd.R_mono HO348.out (fun _ hk => ⟨hk.2, hk.1.2⟩)), (by exact Kd.R_mono HO351.out (fun _ hk => ⟨hk.1.2, hk.2⟩)), (by exact BK332.out), (by repeat (first | (with_reducible first | exact HB.out)))⟩)
     ·skip
      refine Kd.R_lit_step k53 _ 53 ?hg (N := 50) ?hd (xs := ([(⟨a1_0, IntKind.u64.wrap (a1_0 + t336)⟩ : S53)] : List (S53))) (inner := [.int .u64 a1_0, .int .u64 (IntKind.u64.wrap (a1_0 + t336))]) (ok := fun _ => True) (okp := fun _ => True) ?hr ?hp (fun _ hk => hk) trivial (Below.refl _ _) (Nat.le_refl _) (by simp) ?_; (case hd => rfl); (case hg => rfl); (case hr => first | (go_simp; done)); (case hp => exact (Reps.c2 (show Kd.M k53 _ _ _ (⟨a1_0, IntKind.u64.wrap (a1_0 + t336)⟩ : S53) [.int .u64 a1_0, .int .u64 (IntKind.u64.wrap (a1_0 + t336))] from (k53_mkM _ _ _ (⟨a1_0, IntKind.u64.wrap (a1_0 + t336)⟩ : S53) )) (Reps.none _ _)))
      intro v350 w32 ho33 hb hg_ hnew_
      clear hg_ hnew_
      (first | rw [← Ny349.out] at ho33)
      have n0_ := Aside0.mk (Kd.R_lower (Kd.R_newB ho33 (g := gb332) (o := .cells #[.int .u64 a1_0, .int .u64 a1_1] 53 (0, 0)) (by exact BK332.out)) (below_size (by repeat (first | (with_reducible first | exact HB.out)))))
      have n1_ := Aside0.mk (blk_below (g := gb332) (o := .cells #[.int .u64 a1_0, .int .u64 a1_1] 53 (0, 0)) (by exact BK332.out) hb)
      have n2_ := Aside0.mk (below_step (by repeat (first | (with_reducible first | exact HB.out))) hb)
      clear BK332
      clear HB
      have HO351 := n0_
      have BK332 := n1_
      have HB := n2_
      clear n0_ n1_ n2_
      clear hb ho33
      refine hK.out _ _ ⟨(blk_cell BK332.out 0).trans rfl, (blk_cell BK332.out 1).trans rfl⟩ (fun hHeld => ?_)
      clear hK K
      refine norm_ (a' := ?_) ?_ ?_
      rotate_left
      ·show Act.put _ (some 50) _ = _
       simp only [Act.put, List.setIfInBounds_toArray, List.set_cons_zero, List.set_cons_succ, i64_w, i32_w]
       rfl
      refine one_ (i := 5) (N := some 45) #[true, true, true, true, true, true, true, true, true, true, true, false, false] rfl rfl (one_of HT_.out (by kernel_rfl)) (by decide) (fun K hK => ?_)
      refine goes_ Tryd.func98 (by kernel_rfl) rfl #[.int .u64 a0, .agg #[.int .u64 (IntKind.u64.wrap (a1_0 + t336)), .int .u64 a1_1], .bool false] (by rfl) rfl rfl (by (try simp only [List.map_toArray, List.map_cons, List.map_nil]); first | rfl) ?_
      with_reducible refine (ih k (by omega) a0 (IntKind.u64.wrap (a1_0 + t336)) a1_1 false t346 _ A26.out).mono ?_
      rintro e w34 ⟨v347, rfl, ho0, hb⟩
      refine ⟨_, rfl, ?_⟩
      have n0_ := Aside0.mk (Kd.R_elder' (by exact HO351.out) (Kd.R_base ho0) hb)
      have n1_ := Aside0.mk (Kd.R_lower (Kd.R_newB (Kd.R_new' ho0 (Kd.R_lt (by exact HO351.out))) (g := gb332) (o := .cells #[.int .u64 a1_0, .int .u64 a1_1] 53 (0, 0)) (by exact BK332.out)) (below_size (by repeat (first | (with_reducible first | exact HB.out)))))
      have n2_ := Aside0.mk (blk_below (g := gb332) (o := .cells #[.int .u64 a1_0, .int .u64 a1_1] 53 (0, 0)) (by exact BK332.out) hb)
      have n3_ := Aside0.mk (below_step (by repeat (first | (with_reducible first | exact HB.out))) hb)
      clear HO351
      clear BK332
      clear HB
      have HO351 := n0_
      have HO348 := n1_
      have BK332 := n2_
      have HB := n3_
      clear n0_ n1_ n2_ n3_
      (try clear hb)
      (try clear hb2)
      (try clear hk)
      (try clear hi)
      (try clear ho0)
      refine hK.out _ _ ⟨(blk_cell BK332.out 0).trans rfl, (blk_cell BK332.out 1).trans rfl⟩ (fun hHeld => ?_)
      clear hK K
      refine norm_ (a' := ?_) ?_ ?_
      rotate_left
      ·show Act.put _ (some 45) _ = _
       simp only [Act.put, List.setIfInBounds_toArray, List.set_cons_zero, List.set_cons_succ, i64_w, i32_w]
       rfl
      exact norm_ (by simp only [putAll, Act.put, List.setIfInBounds_toArray, List.set_cons_zero, List.set_cons_succ]) (hCont (v347, v350) _ ⟨hHeld, (by exact Kd.R_mono HO348.out (fun _ hk => ⟨hk.1.2, hk.2⟩)), (by exact Kd.R_mono HO351.out (fun _ hk => ⟨hk.2, hk.1.2⟩)), (by exact BK332.out), (by repeat (first | (with_reducible first | exact HB.out)))⟩)
    rintro ⟨v347, v350⟩ w35 ⟨hS_, h0_, h1_, h2_, h3_⟩
    have n0_ : Aside0 (Kd.R k53 53 w35 w.heap.size (fun k_ => some k_ ≠ (v350 : Value).ownBlock ∧ k_ ≠ gb332) v347 t346) := ⟨h0_⟩
    have n1_ : Aside0 (Kd.R k53 53 w35 w.heap.size (fun k_ => some k_ ≠ (v347 : Value).ownBlock ∧ k_ ≠ gb332) v350 y349) := ⟨h1_⟩
    have n2_ : Aside0 (w35.heap[gb332]? = some (.cells #[.int .u64 a1_0, .int .u64 a1_1] 53 (0, 0))) := ⟨h2_⟩
    have n3_ : Aside0 (Below w.heap.size w w35) := ⟨h3_⟩
    clear BK332
    clear HB
    clear h0_ h1_ h2_ h3_
    have HO348 := n0_
    have HO351 := n1_
    have BK332 := n2_
    have HB := n3_
    clear n0_ n1_ n2_ n3_
    have hHeld : w35.cell? ⟨gb332, 0, none⟩ = some (.int .u64 a1_0) ∧ w35.cell? ⟨gb332, 1, none⟩ = some (.int .u64 a1_1) := hS_
    obtain ⟨Ao37, co37, eo37⟩ := Kd.R_slice HO351.out
    (first | subst eo37)
    refine norm_ (a' := ?_) ?_ ?_
    rotate_left
    ·simp only [putAll, Act.put, List.setIfInBounds_toArray, List.set_cons_zero, List.set_cons_succ]
     rfl
    refine one_ (i := 11) (N := some 51) #[true, true, true, true, true, true, true, true, true, true, true, true, false] rfl rfl (one_of HT_.out (by kernel_rfl)) (by decide) (fun K hK => ?_)
    refine Kd.R_append_rows_step k53 (w0 := w) w.heap.size (by rfl) (.tmp 45) (.tmp 50) 118 53 (.agg #[(.int .u64 0), (.int .u64 0)]) 16 rfl Tryd.underlying118 info53 rfl (by decide) (by omega) v347 t346 y349 _ _ _ (fun k_ => some k_ ≠ (.slice Ao37 y349.length co37 : Value).ownBlock ∧ k_ ≠ gb332) (fun _ => False) rfl rfl ?aO ?aR (fun _ _ h => h) (fun _ h => h.elim) ?aF ?aB ?aS ?aL ?_
    (case aR => repeat (first | exact (Kd.R_reads' HO351.out).2.2))
    (case aB => exact (by repeat (first | (with_reducible first | exact HB.out))))
    (case aF => exact (fun k_ hk => ⟨Kd.fresh' (Kd.R_lt (by exact HO351.out)) k_ hk, Kd.freshB (g := gb332) (o := .cells #[.int .u64 a1_0, .int .u64 a1_1] 53 (0, 0)) (by exact BK332.out) k_ hk⟩))
    (case aO => exact (by exact HO348.out))
    (case aS => exact (below_size (by repeat (first | (with_reducible first | exact HB.out)))))
    (case aL => have := LMc27.out; omega)
    intro v353 w36 ho hb hg hat
    rw [← Ny352.out] at ho
    have n0_ := Aside0.mk (blk_grown (g := gb332) (o := .cells #[.int .u64 a1_0, .int .u64 a1_1] 53 (0, 0)) (by exact BK332.out) hg (Kd.R_away HO348.out (fun _ hk => hk.2)))
    have n1_ := Aside0.mk (Kd.R_after (ok := (fun k_ => k_ ≠ gb332)) (by exact Kd.R_mono HO351.out (fun _ hk => ⟨hk.2, hk.1⟩)) hg hat)
    have n2_ := Aside0.mk (hb)
    have n3_ := Aside0.mk (ho)
    clear BK332
    clear HO351
    clear HB
    clear HO348
    have BK332 := n0_
    have HO351 := n1_
    have HB := n2_
    have HO354 := n3_
    clear n0_ n1_ n2_ n3_
    clear ho hb hg hat
    refine hK.out _ _ ⟨(blk_cell BK332.out 0).trans rfl, (blk_cell BK332.out 1).trans rfl⟩ (fun hHeld => ?_)
    clear hK K
    refine norm_ (a' := ?_) ?_ ?_
    rotate_left
    ·show Act.put _ (some 51) _ = _
     simp only [Act.put, List.setIfInBounds_toArray, List.set_cons_zero, List.set_cons_succ, i64_w, i32_w]
     rfl
    refine pure_ (i := 12) (N := some 6) (v := ?_) (a' := ?_) #[true, true, true, true, true, true, true, true, true, true, true, true, true] rfl rfl (any_of HT_.out (by kernel_rfl)) (fun _ _ _ h => h) (Or.inl ⟨by rfl, ?_⟩) ?_ ?_
    rotate_left
    ·intro w'
     go_simp
     with_reducible rfl
    rotate_left
    ·simp only [Act.put, List.setIfInBounds_toArray, List.set_cons_zero, List.set_cons_succ, i64_w, i32_w]
     rfl
    refine done_ (done_of HT_.out (by kernel_rfl)) ?_
    try go_wp2
    go_ret
    exact ⟨_, by first | rfl, by exact Kd.R_mono HO354.out (fun _ hk => trivial), by repeat (first | (with_reducible first | exact HB.out))⟩
   ·rw [if_neg c27] at H
    exact absurd H (by simp)
def spec_ProofParts.f (k : Nat) (a0 : Int) (a1 : Int) : Option ((List (S53))) := (spec_proofIn.f k a0 0 a1 true).bind fun t355 => (some t355)
theorem spec_ProofParts.calls (k : Nat) (a0 : Int) (a1 : Int) (r : List (S53)) (w : World) (h : spec_ProofParts.f k a0 a1 = some r) :
 Calls Tryd.prog 66 #[.int .u64 a0, .int .u64 a1] w fun e w' => ∃ v0_ : Value, e = .returned (v0_) ∧ Kd.R k53 53 w' w.heap.size (fun _ => True) v0_ r ∧ Below w.heap.size w w' := by
 have hu53 := Tryd.underlying53
 have HB := Aside0.mk (Below.refl w.heap.size w)
 have H : ((spec_proofIn.f k a0 0 a1 true).bind fun t355 => (some t355)) = some r := h
 clear h
 replace H := Option.bind_eq_some_iff.mp H
 obtain ⟨t355, A30, H⟩ := H
 replace H : (some t355) = some r := H
 have A3 := Aside0.mk A30
 clear A30
 obtain rfl := Option.some.inj H
 go_enter Tryd.func66, Tryd.ntmps66
 go_wp2_with (first | ((with_reducible refine gate_callee (f := 98) rfl ?_); refine goesL_ (some 8) rfl rfl Tryd.func98 (by kernel_rfl) rfl #[.int .u64 a0, .agg #[.int .u64 0, .int .u64 a1], .bool true] rfl (by (try simp only [List.map_toArray, List.map_cons, List.map_nil]); first | rfl) ?_; (with_reducible refine (spec_proofIn.calls k a0 0 a1 true t355 _ A3.out).mono ?_); rintro e w4 ⟨v356, rfl, ho0, hb⟩; refine ⟨_, rfl, ?_⟩; have n0_ := Aside0.mk (Kd.R_lower ho0 (below_size (by repeat (first | (with_reducible first | exact HB.out))))); have n1_ := Aside0.mk (below_step (by repeat (first | (with_reducible first | exact HB.out))) hb); clear HB; have HO357 := n0_; have HB := n1_; clear n0_ n1_; (try clear hb); (try clear hb2); (try clear hk); (try clear hi); (try clear ho0)))
 go_ret
 exact ⟨_, by first | rfl, by exact HO357.out, by repeat (first | (with_reducible first | exact HB.out))⟩
end Go.Proofs.YtielnphmcaecdaaDoor.PAll
