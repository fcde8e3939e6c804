-- Written by a program of this session (wip/tools)
import Derived.Test.YthfgegaakfgjkaaPFnFamilyx0
import Derived.Test.YthfgegaakfgjkaaPFnFamilyx1
import Derived.Test.YthfgegaakfgjkaaPFnFamilyx2
namespace Go.Proofs.Ythfgegaakfgjkaa.PFnFamily
open Go.RowKit Go.Proofs.YthfgegaakfgjkaaW.PrintWords Go.Proofs.YthfgegaakfgjkaaW.PrintLast Go.Proofs.YthfgegaakfgjkaaW.PrintMore
attribute [local go_sem] max2_int min2_int max_two min_two max_three min_three max_four min_four   -- for this text's walks alone
set_option linter.unusedVariables false
set_option linter.unusedSimpArgs false

attribute [local go_sem high] eqA25
/-! ### laws_FnFamily: function 3 -/
def laws_FnFamily.f (a0_0 : Int) (a0_1 : Int) : Option (Bool) := (impl_Sibling.f a0_0 a0_1).bind fun bt133 => ((impl_Parent.f a0_0 a0_1).bind fun bt135 => (if (bt133.1 == a0_0 && (bt133.2 == (Go.bits .xor .u64 a0_1 1))) = true then (if (bt135.1 == (IntKind.u64.wrap (a0_0 + 1)) && (bt135.2 == (a0_1 / 2))) = true then ((impl_Parent.f bt133.1 bt133.2).bind fun bt139 => (if (bt139.1 == bt135.1 && (bt139.2 == bt135.2)) = true then ((impl_Sibling.f bt133.1 bt133.2).bind fun bt141 => (some (bt141.1 == a0_0 && (bt141.2 == a0_1)))) else (none))) else (none)) else (none)))
def laws_FnFamily.T1 : Bool × List (List Nat × List Nat) := (true, [([], []), ([0], [0]), ([], []), ([2, 1], [2]), ([], []), ([], []), ([4, 1, 3, 0, 1, 4, 5], [1, 4]), ([5, 3, 6, 0, 1, 2, 3, 4, 5, 6], [3, 5])])
def laws_FnFamily.B1 : List Nat := [0, 1, 0, 7, 0, 0, 63, 127]
theorem laws_FnFamily.tab1 : rtab .any (opsOf Try.f3 1) = laws_FnFamily.T1 := by kernel_rfl
theorem laws_FnFamily.bits1 : waitsOk laws_FnFamily.T1.2 laws_FnFamily.B1 = true := by kernel_rfl
def laws_FnFamily.T2 : Bool × List (List Nat × List Nat) := (true, [([], []), ([], []), ([1], [1]), ([], []), ([3], [3]), ([4], [4]), ([2, 5], [2, 5]), ([0, 6], [0, 6]), ([7], [7]), ([8], [8]), ([8], [8]), ([10, 8], [8, 10]), ([11, 8], [8, 11]), ([8], [8]), ([13, 8], [8, 13]), ([14, 8], [8, 14]), ([12, 15, 8], [8, 12, 15]), ([9, 16, 8], [8, 9, 16]), ([8, 17], [8, 17]), ([18, 8], [18]), ([19], [19]), ([20, 19, 19], [19, 20]), ([19], [19]), ([21, 22, 19], [19, 21, 22]), ([19, 23], [19, 23]), ([24, 21], [24]), ([25], [25]), ([26, 25, 25], [25, 26]), ([25], [25]), ([27, 28, 25], [25, 27, 28]), ([25, 29], [25, 29]), ([30, 27, 0, 1, 2, 3, 4, 5, 6, 7, 8, 9, 10, 11, 12, 13, 14, 15, 16, 17, 18, 19, 20, 21, 22, 23, 24, 25, 26, 27, 28, 29, 30], [30])])
def laws_FnFamily.B2 : List Nat := [0, 0, 2, 0, 8, 24, 62, 127, 255, 511, 511, 1535, 3583, 511, 8703, 25087, 65023, 131071, 262143, 524287, 1048575, 2097151, 1048575, 8388607, 16777215, 33554431, 67108863, 134217727, 67108863, 536870911, 1073741823, 2147483647]
theorem laws_FnFamily.tab2 : rtab .any (opsOf Try.f3 2) = laws_FnFamily.T2 := by kernel_rfl
theorem laws_FnFamily.bits2 : waitsOk laws_FnFamily.T2.2 laws_FnFamily.B2 = true := by kernel_rfl
set_option maxHeartbeats 8000000 in
set_option maxRecDepth 100000 in
theorem laws_FnFamily.calls (a0_0 : Int) (a0_1 : Int) (r : Bool) (w : World) (h : laws_FnFamily.f a0_0 a0_1 = some r) :
    Calls Try.prog 3 #[.agg #[.int .u64 a0_0, .int .u64 a0_1]] w fun e w' => e = .returned (.bool r) ∧ Below w.heap.size w w' := by
  have hu25 := Try.underlying25
  have HB := Aside0.mk (Below.refl w.heap.size w)
  have H : ((impl_Sibling.f a0_0 a0_1).bind fun bt133 => ((impl_Parent.f a0_0 a0_1).bind fun bt135 => (if (bt133.1 == a0_0 && (bt133.2 == (Go.bits .xor .u64 a0_1 1))) = true then (if (bt135.1 == (IntKind.u64.wrap (a0_0 + 1)) && (bt135.2 == (a0_1 / 2))) = true then ((impl_Parent.f bt133.1 bt133.2).bind fun bt139 => (if (bt139.1 == bt135.1 && (bt139.2 == bt135.2)) = true then ((impl_Sibling.f bt133.1 bt133.2).bind fun bt141 => (some (bt141.1 == a0_0 && (bt141.2 == a0_1)))) else (none))) else (none)) else (none)))) = some r := h
  clear h
  replace H := Option.bind_eq_some_iff.mp H
  obtain ⟨⟨t133, t134⟩, A20, H⟩ := H
  replace H : ((impl_Parent.f a0_0 a0_1).bind fun bt135 => (if (t133 == a0_0 && (t134 == (Go.bits .xor .u64 a0_1 1))) = true then (if (bt135.1 == (IntKind.u64.wrap (a0_0 + 1)) && (bt135.2 == (a0_1 / 2))) = true then ((impl_Parent.f t133 t134).bind fun bt139 => (if (bt139.1 == bt135.1 && (bt139.2 == bt135.2)) = true then ((impl_Sibling.f t133 t134).bind fun bt141 => (some (bt141.1 == a0_0 && (bt141.2 == a0_1)))) else (none))) else (none)) else (none))) = some r := H
  have A2 := Aside0.mk A20
  clear A20
  replace H := Option.bind_eq_some_iff.mp H
  obtain ⟨⟨t135, t136⟩, A30, H⟩ := H
  replace H : (if (t133 == a0_0 && (t134 == (Go.bits .xor .u64 a0_1 1))) = true then (if (t135 == (IntKind.u64.wrap (a0_0 + 1)) && (t136 == (a0_1 / 2))) = true then ((impl_Parent.f t133 t134).bind fun bt139 => (if (bt139.1 == t135 && (bt139.2 == t136)) = true then ((impl_Sibling.f t133 t134).bind fun bt141 => (some (bt141.1 == a0_0 && (bt141.2 == a0_1)))) else (none))) else (none)) else (none)) = some r := H
  have A3 := Aside0.mk A30
  clear A30
  by_cases c4 : (t133 == a0_0 && (t134 == (Go.bits .xor .u64 a0_1 1))) = true
  · rw [if_pos c4] at H
    have c4b0 : (t133 == a0_0 && (t134 == (Go.bits .xor .u64 a0_1 1))) = true := c4
    (try (have c4b1 : decide (t133 = a0_0 && (t134 == (Go.bits .xor .u64 a0_1 1))) = true := by simpa using c4))
    (try (have c4b2 : (t133 == a0_0 && (t134 == (Go.bits .xor .u64 a0_1 1))) = true := by simpa using c4))
    clear c4
    by_cases c5 : (t135 == (IntKind.u64.wrap (a0_0 + 1)) && (t136 == (a0_1 / 2))) = true
    · rw [if_pos c5] at H
      have c5b0 : (t135 == (IntKind.u64.wrap (a0_0 + 1)) && (t136 == (a0_1 / 2))) = true := c5
      (try (have c5b1 : decide (t135 = (IntKind.u64.wrap (a0_0 + 1)) && (t136 == (a0_1 / 2))) = true := by simpa using c5))
      (try (have c5b2 : (t135 == (IntKind.u64.wrap (a0_0 + 1)) && (t136 == (a0_1 / 2))) = true := by simpa using c5))
      clear c5
      replace H := Option.bind_eq_some_iff.mp H
      obtain ⟨⟨t139, t140⟩, A60, H⟩ := H
      replace H : (if (t139 == t135 && (t140 == t136)) = true then ((impl_Sibling.f t133 t134).bind fun bt141 => (some (bt141.1 == a0_0 && (bt141.2 == a0_1)))) else (none)) = some r := H
      have A6 := Aside0.mk A60
      clear A60
      by_cases c7 : (t139 == t135 && (t140 == t136)) = true
      · rw [if_pos c7] at H
        have c7b0 : (t139 == t135 && (t140 == t136)) = true := c7
        (try (have c7b1 : decide (t139 = t135 && (t140 == t136)) = true := by simpa using c7))
        (try (have c7b2 : (t139 == t135 && (t140 == t136)) = true := by simpa using c7))
        clear c7
        replace H := Option.bind_eq_some_iff.mp H
        obtain ⟨⟨t141, t142⟩, A80, H⟩ := H
        replace H : (some (t141 == a0_0 && (t142 == a0_1))) = some r := H
        have A8 := Aside0.mk A80
        clear A80
        obtain rfl := Option.some.inj H
        go_enter Try.func3, Try.ntmps3
        try go_wp2_with (first | ((with_reducible refine gate_dst (N := 1) rfl ?_); refine box_event ?hg (N := 1) ?hd (cs := #[.int .u64 a0_0, .int .u64 a0_1]) (t := 25) ?hr ?_; (case hd => rfl); (case hg => rfl); (case hr => first | (go_simp; done) | (go_simp; rfl)); intro gb132 hg w9 hbox hb; have n0_ := Aside0.mk (below_step (by repeat (first | (with_reducible first | exact HB.out | apply below_alloc | apply pw_below_drewN | apply below_drew1) | exact HB.out)) hb); have n1_ := Aside0.mk (hbox); have n2_ := Aside0.mk ((by rw [hg]; exact (below_size (by repeat (first | (with_reducible first | exact HB.out | apply below_alloc | apply pw_below_drewN | apply below_drew1) | exact HB.out))) : w.heap.size ≤ gb132)); have n3_ := Aside0.mk ((by rw [hg]; exact (below_size (by repeat (first | (with_reducible first | exact HB.out | apply below_alloc | apply pw_below_drewN | apply below_drew1) | exact HB.out))) : w.heap.size ≤ gb132)); clear HB; have HB := n0_; have BK132 := n1_; have GW132 := n2_; have GE132 := n3_; clear n0_ n1_ n2_ n3_; clear hb hbox hg))
        (try (rw [drewN_self w9]; generalize hq_ : World.drewN w9 _ = w9; have n0_ : Aside0 (w9.heap[gb132]? = some (.cells #[.int .u64 a0_0, .int .u64 a0_1] 25 (0, 0))) := ⟨by rw [← hq_]; exact (by (with_reducible repeat (first | refine blk_drewN ?_ _ | refine blk_drew ?_ | refine blk_alloc ?_ _)); exact BK132.out)⟩; have n1_ : Aside0 (Below w.heap.size w w9) := ⟨by rw [← hq_]; exact (by repeat (first | (with_reducible first | exact HB.out | apply below_alloc | apply pw_below_drewN | apply below_drew1 | refine below_set ?_ GE132.out) | exact HB.out))⟩; clear BK132 HB hq_; have BK132 := n0_; have HB := n1_; clear n0_ n1_))
        have n0_ := Aside0.mk (blk_drew BK132.out)
        have n1_ := Aside0.mk (below_drew1 HB.out)
        clear BK132
        clear HB
        have BK132 := n0_
        have HB := n1_
        clear n0_ n1_
        refine start_ (n := 8) (S := fun w' => w'.cell? ⟨gb132, 0, none⟩ = some (.int .u64 a0_0) ∧ w'.cell? ⟨gb132, 1, none⟩ = some (.int .u64 a0_1)) (ds := []) #[false, false, false, false, false, false, false, false] (by kernel_rfl) rfl rfl ⟨(blk_cell BK132.out 0).trans rfl, (blk_cell BK132.out 1).trans rfl⟩ (fun hHeld => ?_); refine with_tabW laws_FnFamily.tab1 laws_FnFamily.bits1 (fun HT_ HW_ => ?_)
        generalize w9.drew = w10 at BK132 HB hHeld ⊢
        refine take_ (i := 0) (N := some 5) (v := ?_) (a' := ?_) #[true, false, false, false, false, false, false, false] rfl rfl (take_ofW HT_.out HW_.out (by kernel_rfl)) (fun _ _ _ h => h) (Or.inl ⟨by rfl, ?_⟩) hHeld ?_ ?_
        rotate_left
        · rintro w' ⟨s0, s1⟩
          go_simp
          with_reducible rfl
        rotate_left
        · simp only [Act.put, List.setIfInBounds_toArray, List.set_cons_zero, List.set_cons_succ, i64_w, i32_w]
          rfl
        refine take_ (i := 2) (N := some 7) (v := ?_) (a' := ?_) #[true, false, true, false, false, false, false, false] rfl rfl (take_ofW HT_.out HW_.out (by kernel_rfl)) (fun _ _ _ h => h) (Or.inl ⟨by rfl, ?_⟩) hHeld ?_ ?_
        rotate_left
        · rintro w' ⟨s0, s1⟩
          go_simp
          with_reducible rfl
        rotate_left
        · simp only [Act.put, List.setIfInBounds_toArray, List.set_cons_zero, List.set_cons_succ, i64_w, i32_w]
          rfl
        refine join_ (σ := Nat × Nat) 2 #[true, true, true, true, true, true, false, false] (fun s_ => [(6, .agg #[.int .u64 t133, .int .u64 t134]), (8, .agg #[.int .u64 t135, .int .u64 t136]), (3, .pointer (some ⟨s_.1, 0, none⟩)), (4, .pointer (some ⟨s_.2, 0, none⟩))]) (fun s_ w' => (w'.cell? ⟨gb132, 0, none⟩ = some (.int .u64 a0_0) ∧ w'.cell? ⟨gb132, 1, none⟩ = some (.int .u64 a0_1)) ∧ (w'.heap[gb132]? = some (.cells #[.int .u64 a0_0, .int .u64 a0_1] 25 (0, 0))) ∧ (w'.heap[s_.1]? = some (.cells #[.int .u64 0, .int .u64 0] 25 (0, 0))) ∧ (w'.heap[s_.2]? = some (.cells #[.int .u64 0, .int .u64 0] 25 (0, 0))) ∧ (w.heap.size ≤ s_.1) ∧ (w.heap.size ≤ s_.1) ∧ (gb132 ≠ s_.1) ∧ (s_.1 ≠ gb132) ∧ (s_.2 ≠ s_.1) ∧ (s_.1 ≠ s_.2) ∧ (w.heap.size ≤ s_.2) ∧ (w.heap.size ≤ s_.2) ∧ (gb132 ≠ s_.2) ∧ (s_.2 ≠ gb132) ∧ (Below w.heap.size w w')) ?_ ?_
        rotate_left
        · intro hJ1_3_4_5
          refine join_ (σ := Nat) 3 #[true, true, true, true, true, false, false, false] (fun s_ => [(6, .agg #[.int .u64 t133, .int .u64 t134]), (8, .agg #[.int .u64 t135, .int .u64 t136]), (3, .pointer (some ⟨s_, 0, none⟩))]) (fun s_ w' => (w'.cell? ⟨gb132, 0, none⟩ = some (.int .u64 a0_0) ∧ w'.cell? ⟨gb132, 1, none⟩ = some (.int .u64 a0_1)) ∧ (w'.heap[gb132]? = some (.cells #[.int .u64 a0_0, .int .u64 a0_1] 25 (0, 0))) ∧ (w'.heap[s_]? = some (.cells #[.int .u64 0, .int .u64 0] 25 (0, 0))) ∧ (w.heap.size ≤ s_) ∧ (w.heap.size ≤ s_) ∧ (gb132 ≠ s_) ∧ (s_ ≠ gb132) ∧ (Below w.heap.size w w')) ?_ ?_
          rotate_left
          · intro hJ1_3_4
            refine join_ (σ := Nat) 3 #[true, true, true, true, false, true, false, false] (fun s_ => [(6, .agg #[.int .u64 t133, .int .u64 t134]), (8, .agg #[.int .u64 t135, .int .u64 t136]), (4, .pointer (some ⟨s_, 0, none⟩))]) (fun s_ w' => (w'.cell? ⟨gb132, 0, none⟩ = some (.int .u64 a0_0) ∧ w'.cell? ⟨gb132, 1, none⟩ = some (.int .u64 a0_1)) ∧ (w'.heap[gb132]? = some (.cells #[.int .u64 a0_0, .int .u64 a0_1] 25 (0, 0))) ∧ (w'.heap[s_]? = some (.cells #[.int .u64 0, .int .u64 0] 25 (0, 0))) ∧ (w.heap.size ≤ s_) ∧ (w.heap.size ≤ s_) ∧ (gb132 ≠ s_) ∧ (s_ ≠ gb132) ∧ (Below w.heap.size w w')) ?_ ?_
            rotate_left
            · intro hJ1_3_5
              refine join_ (σ := Nat × Nat) 3 #[true, true, true, false, true, true, false, false] (fun s_ => [(6, .agg #[.int .u64 t133, .int .u64 t134]), (3, .pointer (some ⟨s_.1, 0, none⟩)), (4, .pointer (some ⟨s_.2, 0, none⟩))]) (fun s_ w' => (w'.cell? ⟨gb132, 0, none⟩ = some (.int .u64 a0_0) ∧ w'.cell? ⟨gb132, 1, none⟩ = some (.int .u64 a0_1)) ∧ (w'.heap[gb132]? = some (.cells #[.int .u64 a0_0, .int .u64 a0_1] 25 (0, 0))) ∧ (w'.heap[s_.1]? = some (.cells #[.int .u64 0, .int .u64 0] 25 (0, 0))) ∧ (w'.heap[s_.2]? = some (.cells #[.int .u64 0, .int .u64 0] 25 (0, 0))) ∧ (w.heap.size ≤ s_.1) ∧ (w.heap.size ≤ s_.1) ∧ (gb132 ≠ s_.1) ∧ (s_.1 ≠ gb132) ∧ (s_.2 ≠ s_.1) ∧ (s_.1 ≠ s_.2) ∧ (w.heap.size ≤ s_.2) ∧ (w.heap.size ≤ s_.2) ∧ (gb132 ≠ s_.2) ∧ (s_.2 ≠ gb132) ∧ (Below w.heap.size w w')) ?_ ?_
              rotate_left
              · intro hJ1_4_5
                refine join_ (σ := Unit) 4 #[true, true, true, true, false, false, false, false] (fun s_ => [(6, .agg #[.int .u64 t133, .int .u64 t134]), (8, .agg #[.int .u64 t135, .int .u64 t136])]) (fun s_ w' => (w'.cell? ⟨gb132, 0, none⟩ = some (.int .u64 a0_0) ∧ w'.cell? ⟨gb132, 1, none⟩ = some (.int .u64 a0_1)) ∧ (w'.heap[gb132]? = some (.cells #[.int .u64 a0_0, .int .u64 a0_1] 25 (0, 0))) ∧ (Below w.heap.size w w')) ?_ ?_
                rotate_left
                · intro hJ1_3
                  refine join_ (σ := Nat) 4 #[true, true, true, false, true, false, false, false] (fun s_ => [(6, .agg #[.int .u64 t133, .int .u64 t134]), (3, .pointer (some ⟨s_, 0, none⟩))]) (fun s_ w' => (w'.cell? ⟨gb132, 0, none⟩ = some (.int .u64 a0_0) ∧ w'.cell? ⟨gb132, 1, none⟩ = some (.int .u64 a0_1)) ∧ (w'.heap[gb132]? = some (.cells #[.int .u64 a0_0, .int .u64 a0_1] 25 (0, 0))) ∧ (w'.heap[s_]? = some (.cells #[.int .u64 0, .int .u64 0] 25 (0, 0))) ∧ (w.heap.size ≤ s_) ∧ (w.heap.size ≤ s_) ∧ (gb132 ≠ s_) ∧ (s_ ≠ gb132) ∧ (Below w.heap.size w w')) ?_ ?_
                  rotate_left
                  · intro hJ1_4
                    refine join_ (σ := Nat) 4 #[true, true, true, false, false, true, false, false] (fun s_ => [(6, .agg #[.int .u64 t133, .int .u64 t134]), (4, .pointer (some ⟨s_, 0, none⟩))]) (fun s_ w' => (w'.cell? ⟨gb132, 0, none⟩ = some (.int .u64 a0_0) ∧ w'.cell? ⟨gb132, 1, none⟩ = some (.int .u64 a0_1)) ∧ (w'.heap[gb132]? = some (.cells #[.int .u64 a0_0, .int .u64 a0_1] 25 (0, 0))) ∧ (w'.heap[s_]? = some (.cells #[.int .u64 0, .int .u64 0] 25 (0, 0))) ∧ (w.heap.size ≤ s_) ∧ (w.heap.size ≤ s_) ∧ (gb132 ≠ s_) ∧ (s_ ≠ gb132) ∧ (Below w.heap.size w w')) ?_ ?_
                    rotate_left
                    · intro hJ1_5
                      refine join_ (σ := Nat × Nat) 4 #[true, false, true, false, true, true, false, false] (fun s_ => [(3, .pointer (some ⟨s_.1, 0, none⟩)), (4, .pointer (some ⟨s_.2, 0, none⟩))]) (fun s_ w' => (w'.cell? ⟨gb132, 0, none⟩ = some (.int .u64 a0_0) ∧ w'.cell? ⟨gb132, 1, none⟩ = some (.int .u64 a0_1)) ∧ (w'.heap[gb132]? = some (.cells #[.int .u64 a0_0, .int .u64 a0_1] 25 (0, 0))) ∧ (w'.heap[s_.1]? = some (.cells #[.int .u64 0, .int .u64 0] 25 (0, 0))) ∧ (w'.heap[s_.2]? = some (.cells #[.int .u64 0, .int .u64 0] 25 (0, 0))) ∧ (w.heap.size ≤ s_.1) ∧ (w.heap.size ≤ s_.1) ∧ (gb132 ≠ s_.1) ∧ (s_.1 ≠ gb132) ∧ (s_.2 ≠ s_.1) ∧ (s_.1 ≠ s_.2) ∧ (w.heap.size ≤ s_.2) ∧ (w.heap.size ≤ s_.2) ∧ (gb132 ≠ s_.2) ∧ (s_.2 ≠ gb132) ∧ (Below w.heap.size w w')) ?_ ?_
                      rotate_left
                      · intro hJ4_5
                        refine join_ (σ := Unit) 5 #[true, true, true, false, false, false, false, false] (fun s_ => [(6, .agg #[.int .u64 t133, .int .u64 t134])]) (fun s_ w' => (w'.cell? ⟨gb132, 0, none⟩ = some (.int .u64 a0_0) ∧ w'.cell? ⟨gb132, 1, none⟩ = some (.int .u64 a0_1)) ∧ (w'.heap[gb132]? = some (.cells #[.int .u64 a0_0, .int .u64 a0_1] 25 (0, 0))) ∧ (Below w.heap.size w w')) ?_ ?_
                        rotate_left
                        · intro hJ1
                          refine join_ (σ := Nat) 5 #[true, false, true, false, true, false, false, false] (fun s_ => [(3, .pointer (some ⟨s_, 0, none⟩))]) (fun s_ w' => (w'.cell? ⟨gb132, 0, none⟩ = some (.int .u64 a0_0) ∧ w'.cell? ⟨gb132, 1, none⟩ = some (.int .u64 a0_1)) ∧ (w'.heap[gb132]? = some (.cells #[.int .u64 a0_0, .int .u64 a0_1] 25 (0, 0))) ∧ (w'.heap[s_]? = some (.cells #[.int .u64 0, .int .u64 0] 25 (0, 0))) ∧ (w.heap.size ≤ s_) ∧ (w.heap.size ≤ s_) ∧ (gb132 ≠ s_) ∧ (s_ ≠ gb132) ∧ (Below w.heap.size w w')) ?_ ?_
                          rotate_left
                          · intro hJ4
                            refine join_ (σ := Nat) 5 #[true, false, true, false, false, true, false, false] (fun s_ => [(4, .pointer (some ⟨s_, 0, none⟩))]) (fun s_ w' => (w'.cell? ⟨gb132, 0, none⟩ = some (.int .u64 a0_0) ∧ w'.cell? ⟨gb132, 1, none⟩ = some (.int .u64 a0_1)) ∧ (w'.heap[gb132]? = some (.cells #[.int .u64 a0_0, .int .u64 a0_1] 25 (0, 0))) ∧ (w'.heap[s_]? = some (.cells #[.int .u64 0, .int .u64 0] 25 (0, 0))) ∧ (w.heap.size ≤ s_) ∧ (w.heap.size ≤ s_) ∧ (gb132 ≠ s_) ∧ (s_ ≠ gb132) ∧ (Below w.heap.size w w')) ?_ ?_
                            rotate_left
                            · intro hJ5
                              refine three_ (i := 1) (j := 4) (k := 5) (Ni := some 6) (Nj := some 3) (Nk := some 4) #[true, true, true, false, false, false, false, false] #[true, false, true, false, true, false, false, false] #[true, false, true, false, false, true, false, false] rfl rfl rfl rfl rfl rfl (three_of HT_.out (by kernel_rfl)) (by decide) (by decide) (by decide) (fun K hK => ?_) (fun K hK => ?_) (fun K hK => ?_)
                              · skip
                                refine goes_ Try.func5 (by kernel_rfl) rfl #[.agg #[.int .u64 a0_0, .int .u64 a0_1]] (by rfl) rfl rfl (by (try simp only [List.map_toArray, List.map_cons, List.map_nil]); first | done | rfl | (simp only [List.length_drop, List.length_take]; rfl)) ?_
                                with_reducible refine (impl_Sibling.calls a0_0 a0_1 t133 t134 _ A2.out).mono ?_
                                rintro e w11 ⟨rfl, hb⟩
                                refine ⟨_, rfl, ?_⟩
                                have n0_ := Aside0.mk (blk_below (g := gb132) (o := .cells #[.int .u64 a0_0, .int .u64 a0_1] 25 (0, 0)) (by (with_reducible repeat (first | refine blk_drewN ?_ _ | refine blk_drew ?_ | refine blk_alloc ?_ _)); exact BK132.out) hb)
                                have n1_ := Aside0.mk (below_step (by repeat (first | (with_reducible first | exact HB.out | apply below_alloc | apply pw_below_drewN | apply below_drew1 | refine below_set ?_ GE132.out) | exact HB.out)) hb)
                                clear BK132
                                clear HB
                                have BK132 := n0_
                                have HB := n1_
                                clear n0_ n1_
                                (try clear hb)
                                (try clear hb2)
                                (try clear hk)
                                (try clear hi)
                                refine hK.out _ _ ⟨(blk_cell BK132.out 0).trans rfl, (blk_cell BK132.out 1).trans rfl⟩ (fun hHeld => ?_)
                                clear hK K
                                refine norm_ (a' := ?_) ?_ ?_
                                rotate_left
                                · show Act.put _ (some 6) _ = _
                                  simp only [Act.put, List.setIfInBounds_toArray, List.set_cons_zero, List.set_cons_succ, i64_w, i32_w]
                                  rfl
                                exact norm_ (by first | (simp only [putAll, Act.put, List.setIfInBounds_toArray, List.set_cons_zero, List.set_cons_succ]; done) | (simp only [putAll, Act.put, List.setIfInBounds_toArray, List.set_cons_zero, List.set_cons_succ]; rfl)) (hJ1 () _ ⟨hHeld, (by (with_reducible repeat (first | refine blk_drewN ?_ _ | refine blk_drew ?_ | refine blk_alloc ?_ _)); exact BK132.out), (by repeat (first | (with_reducible first | exact HB.out | apply below_alloc | apply pw_below_drewN | apply below_drew1 | refine below_set ?_ GE132.out) | exact HB.out))⟩)
                              · skip
                                refine box_step ?hg (N := 3) ?hd (cs := #[.int .u64 0, .int .u64 0]) (t := 25) ?hr ?_; (case hd => rfl); (case hg => rfl); (case hr => first | (go_simp; done) | (go_simp; rfl))
                                intro gb137 hg w11 hbox hb
                                have n0_ := Aside0.mk (blk_below (g := gb132) (o := .cells #[.int .u64 a0_0, .int .u64 a0_1] 25 (0, 0)) (by (with_reducible repeat (first | refine blk_drewN ?_ _ | refine blk_drew ?_ | refine blk_alloc ?_ _)); exact BK132.out) hb)
                                have n1_ := Aside0.mk (below_step (by repeat (first | (with_reducible first | exact HB.out | apply below_alloc | apply pw_below_drewN | apply below_drew1 | refine below_set ?_ GE132.out) | exact HB.out)) hb)
                                have n2_ := Aside0.mk (hbox)
                                have n3_ := Aside0.mk ((by rw [hg]; exact (below_size (by repeat (first | (with_reducible first | exact HB.out | apply below_alloc | apply pw_below_drewN | apply below_drew1 | refine below_set ?_ GE132.out) | exact HB.out))) : w.heap.size ≤ gb137))
                                have n4_ := Aside0.mk ((by rw [hg]; exact (below_size (by repeat (first | (with_reducible first | exact HB.out | apply below_alloc | apply pw_below_drewN | apply below_drew1 | refine below_set ?_ GE132.out) | exact HB.out))) : w.heap.size ≤ gb137))
                                have n5_ := Aside0.mk ((by rw [hg]; exact Nat.ne_of_lt (blk_lt (g := gb132) (o := .cells #[.int .u64 a0_0, .int .u64 a0_1] 25 (0, 0)) (by (with_reducible repeat (first | refine blk_drewN ?_ _ | refine blk_drew ?_ | refine blk_alloc ?_ _)); exact BK132.out)) : gb132 ≠ gb137))
                                have n6_ := Aside0.mk ((by rw [hg]; exact Nat.ne_of_gt (blk_lt (g := gb132) (o := .cells #[.int .u64 a0_0, .int .u64 a0_1] 25 (0, 0)) (by (with_reducible repeat (first | refine blk_drewN ?_ _ | refine blk_drew ?_ | refine blk_alloc ?_ _)); exact BK132.out)) : gb137 ≠ gb132))
                                clear BK132
                                clear HB
                                have BK132 := n0_
                                have HB := n1_
                                have BK137 := n2_
                                have GW137 := n3_
                                have GE137 := n4_
                                have NB132_137 := n5_
                                have NB137_132 := n6_
                                clear n0_ n1_ n2_ n3_ n4_ n5_ n6_
                                clear hb hbox hg
                                refine hK.out _ _ ⟨(blk_cell BK132.out 0).trans rfl, (blk_cell BK132.out 1).trans rfl⟩ (fun hHeld => ?_)
                                clear hK K
                                refine norm_ (a' := ?_) ?_ ?_
                                rotate_left
                                · show Act.put _ (some 3) _ = _
                                  simp only [Act.put, List.setIfInBounds_toArray, List.set_cons_zero, List.set_cons_succ, i64_w, i32_w]
                                  rfl
                                exact norm_ (by first | (simp only [putAll, Act.put, List.setIfInBounds_toArray, List.set_cons_zero, List.set_cons_succ]; done) | (simp only [putAll, Act.put, List.setIfInBounds_toArray, List.set_cons_zero, List.set_cons_succ]; rfl)) (hJ4 (gb137) _ ⟨hHeld, (by (with_reducible repeat (first | refine blk_drewN ?_ _ | refine blk_drew ?_ | refine blk_alloc ?_ _)); exact BK132.out), (by (with_reducible repeat (first | refine blk_drewN ?_ _ | refine blk_drew ?_ | refine blk_alloc ?_ _)); exact BK137.out), GW137.out, GE137.out, NB132_137.out, NB137_132.out, (by repeat (first | (with_reducible first | exact HB.out | apply below_alloc | apply pw_below_drewN | apply below_drew1 | refine below_set ?_ GE132.out | refine below_set ?_ GE137.out) | exact HB.out))⟩)
                              · skip
                                refine box_step ?hg (N := 4) ?hd (cs := #[.int .u64 0, .int .u64 0]) (t := 25) ?hr ?_; (case hd => rfl); (case hg => rfl); (case hr => first | (go_simp; done) | (go_simp; rfl))
                                intro gb138 hg w11 hbox hb
                                have n0_ := Aside0.mk (blk_below (g := gb132) (o := .cells #[.int .u64 a0_0, .int .u64 a0_1] 25 (0, 0)) (by (with_reducible repeat (first | refine blk_drewN ?_ _ | refine blk_drew ?_ | refine blk_alloc ?_ _)); exact BK132.out) hb)
                                have n1_ := Aside0.mk (below_step (by repeat (first | (with_reducible first | exact HB.out | apply below_alloc | apply pw_below_drewN | apply below_drew1 | refine below_set ?_ GE132.out) | exact HB.out)) hb)
                                have n2_ := Aside0.mk (hbox)
                                have n3_ := Aside0.mk ((by rw [hg]; exact (below_size (by repeat (first | (with_reducible first | exact HB.out | apply below_alloc | apply pw_below_drewN | apply below_drew1 | refine below_set ?_ GE132.out) | exact HB.out))) : w.heap.size ≤ gb138))
                                have n4_ := Aside0.mk ((by rw [hg]; exact (below_size (by repeat (first | (with_reducible first | exact HB.out | apply below_alloc | apply pw_below_drewN | apply below_drew1 | refine below_set ?_ GE132.out) | exact HB.out))) : w.heap.size ≤ gb138))
                                have n5_ := Aside0.mk ((by rw [hg]; exact Nat.ne_of_lt (blk_lt (g := gb132) (o := .cells #[.int .u64 a0_0, .int .u64 a0_1] 25 (0, 0)) (by (with_reducible repeat (first | refine blk_drewN ?_ _ | refine blk_drew ?_ | refine blk_alloc ?_ _)); exact BK132.out)) : gb132 ≠ gb138))
                                have n6_ := Aside0.mk ((by rw [hg]; exact Nat.ne_of_gt (blk_lt (g := gb132) (o := .cells #[.int .u64 a0_0, .int .u64 a0_1] 25 (0, 0)) (by (with_reducible repeat (first | refine blk_drewN ?_ _ | refine blk_drew ?_ | refine blk_alloc ?_ _)); exact BK132.out)) : gb138 ≠ gb132))
                                clear BK132
                                clear HB
                                have BK132 := n0_
                                have HB := n1_
                                have BK138 := n2_
                                have GW138 := n3_
                                have GE138 := n4_
                                have NB132_138 := n5_
                                have NB138_132 := n6_
                                clear n0_ n1_ n2_ n3_ n4_ n5_ n6_
                                clear hb hbox hg
                                refine hK.out _ _ ⟨(blk_cell BK132.out 0).trans rfl, (blk_cell BK132.out 1).trans rfl⟩ (fun hHeld => ?_)
                                clear hK K
                                refine norm_ (a' := ?_) ?_ ?_
                                rotate_left
                                · show Act.put _ (some 4) _ = _
                                  simp only [Act.put, List.setIfInBounds_toArray, List.set_cons_zero, List.set_cons_succ, i64_w, i32_w]
                                  rfl
                                exact norm_ (by first | (simp only [putAll, Act.put, List.setIfInBounds_toArray, List.set_cons_zero, List.set_cons_succ]; done) | (simp only [putAll, Act.put, List.setIfInBounds_toArray, List.set_cons_zero, List.set_cons_succ]; rfl)) (hJ5 (gb138) _ ⟨hHeld, (by (with_reducible repeat (first | refine blk_drewN ?_ _ | refine blk_drew ?_ | refine blk_alloc ?_ _)); exact BK132.out), (by (with_reducible repeat (first | refine blk_drewN ?_ _ | refine blk_drew ?_ | refine blk_alloc ?_ _)); exact BK138.out), GW138.out, GE138.out, NB132_138.out, NB138_132.out, (by repeat (first | (with_reducible first | exact HB.out | apply below_alloc | apply pw_below_drewN | apply below_drew1 | refine below_set ?_ GE132.out | refine below_set ?_ GE138.out) | exact HB.out))⟩)
                            · skip
                              rintro gb138 w12 ⟨hS_, h0_, h1_, h2_, h3_, h4_, h5_, h6_⟩
                              have n0_ : Aside0 (w12.heap[gb132]? = some (.cells #[.int .u64 a0_0, .int .u64 a0_1] 25 (0, 0))) := ⟨h0_⟩
                              have n1_ : Aside0 (w12.heap[gb138]? = some (.cells #[.int .u64 0, .int .u64 0] 25 (0, 0))) := ⟨h1_⟩
                              have n2_ : Aside0 (w.heap.size ≤ gb138) := ⟨h2_⟩
                              have n3_ : Aside0 (w.heap.size ≤ gb138) := ⟨h3_⟩
                              have n4_ : Aside0 (gb132 ≠ gb138) := ⟨h4_⟩
                              have n5_ : Aside0 (gb138 ≠ gb132) := ⟨h5_⟩
                              have n6_ : Aside0 (Below w.heap.size w w12) := ⟨h6_⟩
                              clear BK132
                              clear HB
                              clear h0_ h1_ h2_ h3_ h4_ h5_ h6_
                              have BK132 := n0_
                              have BK138 := n1_
                              have GW138 := n2_
                              have GE138 := n3_
                              have NB132_138 := n4_
                              have NB138_132 := n5_
                              have HB := n6_
                              clear n0_ n1_ n2_ n3_ n4_ n5_ n6_
                              have hHeld : w12.cell? ⟨gb132, 0, none⟩ = some (.int .u64 a0_0) ∧ w12.cell? ⟨gb132, 1, none⟩ = some (.int .u64 a0_1) := hS_
                              refine norm_ (a' := ?_) ?_ ?_
                              rotate_left
                              · simp only [putAll, Act.put, List.setIfInBounds_toArray, List.set_cons_zero, List.set_cons_succ]
                                rfl
                              refine two_ (i := 1) (j := 4) (Ni := some 6) (Nj := some 3) #[true, true, true, false, false, true, false, false] #[true, false, true, false, true, true, false, false] rfl rfl rfl rfl (two_of HT_.out (by kernel_rfl)) (by decide) (by decide) (fun K hK => ?_) (fun K hK => ?_)
                              · skip
                                refine goes_ Try.func5 (by kernel_rfl) rfl #[.agg #[.int .u64 a0_0, .int .u64 a0_1]] (by rfl) rfl rfl (by (try simp only [List.map_toArray, List.map_cons, List.map_nil]); first | done | rfl | (simp only [List.length_drop, List.length_take]; rfl)) ?_
                                with_reducible refine (impl_Sibling.calls a0_0 a0_1 t133 t134 _ A2.out).mono ?_
                                rintro e w13 ⟨rfl, hb⟩
                                refine ⟨_, rfl, ?_⟩
                                have n0_ := Aside0.mk (blk_below (g := gb132) (o := .cells #[.int .u64 a0_0, .int .u64 a0_1] 25 (0, 0)) (by (with_reducible repeat (first | refine blk_drewN ?_ _ | refine blk_drew ?_ | refine blk_alloc ?_ _)); exact BK132.out) hb)
                                have n1_ := Aside0.mk (blk_below (g := gb138) (o := .cells #[.int .u64 0, .int .u64 0] 25 (0, 0)) (by (with_reducible repeat (first | refine blk_drewN ?_ _ | refine blk_drew ?_ | refine blk_alloc ?_ _)); exact BK138.out) hb)
                                have n2_ := Aside0.mk (below_step (by repeat (first | (with_reducible first | exact HB.out | apply below_alloc | apply pw_below_drewN | apply below_drew1 | refine below_set ?_ GE132.out | refine below_set ?_ GE138.out) | exact HB.out)) hb)
                                clear BK132
                                clear BK138
                                clear HB
                                have BK132 := n0_
                                have BK138 := n1_
                                have HB := n2_
                                clear n0_ n1_ n2_
                                (try clear hb)
                                (try clear hb2)
                                (try clear hk)
                                (try clear hi)
                                refine hK.out _ _ ⟨(blk_cell BK132.out 0).trans rfl, (blk_cell BK132.out 1).trans rfl⟩ (fun hHeld => ?_)
                                clear hK K
                                refine norm_ (a' := ?_) ?_ ?_
                                rotate_left
                                · show Act.put _ (some 6) _ = _
                                  simp only [Act.put, List.setIfInBounds_toArray, List.set_cons_zero, List.set_cons_succ, i64_w, i32_w]
                                  rfl
                                exact norm_ (by first | (simp only [putAll, Act.put, List.setIfInBounds_toArray, List.set_cons_zero, List.set_cons_succ]; done) | (simp only [putAll, Act.put, List.setIfInBounds_toArray, List.set_cons_zero, List.set_cons_succ]; rfl)) (hJ1_5 (gb138) _ ⟨hHeld, (by (with_reducible repeat (first | refine blk_drewN ?_ _ | refine blk_drew ?_ | refine blk_alloc ?_ _)); exact BK132.out), (by (with_reducible repeat (first | refine blk_drewN ?_ _ | refine blk_drew ?_ | refine blk_alloc ?_ _)); exact BK138.out), GW138.out, GE138.out, NB132_138.out, NB138_132.out, (by repeat (first | (with_reducible first | exact HB.out | apply below_alloc | apply pw_below_drewN | apply below_drew1 | refine below_set ?_ GE132.out | refine below_set ?_ GE138.out) | exact HB.out))⟩)
                              · skip
                                refine box_step ?hg (N := 3) ?hd (cs := #[.int .u64 0, .int .u64 0]) (t := 25) ?hr ?_; (case hd => rfl); (case hg => rfl); (case hr => first | (go_simp; done) | (go_simp; rfl))
                                intro gb137 hg w13 hbox hb
                                have n0_ := Aside0.mk (blk_below (g := gb132) (o := .cells #[.int .u64 a0_0, .int .u64 a0_1] 25 (0, 0)) (by (with_reducible repeat (first | refine blk_drewN ?_ _ | refine blk_drew ?_ | refine blk_alloc ?_ _)); exact BK132.out) hb)
                                have n1_ := Aside0.mk (blk_below (g := gb138) (o := .cells #[.int .u64 0, .int .u64 0] 25 (0, 0)) (by (with_reducible repeat (first | refine blk_drewN ?_ _ | refine blk_drew ?_ | refine blk_alloc ?_ _)); exact BK138.out) hb)
                                have n2_ := Aside0.mk (below_step (by repeat (first | (with_reducible first | exact HB.out | apply below_alloc | apply pw_below_drewN | apply below_drew1 | refine below_set ?_ GE132.out | refine below_set ?_ GE138.out) | exact HB.out)) hb)
                                have n3_ := Aside0.mk (hbox)
                                have n4_ := Aside0.mk ((by rw [hg]; exact (below_size (by repeat (first | (with_reducible first | exact HB.out | apply below_alloc | apply pw_below_drewN | apply below_drew1 | refine below_set ?_ GE132.out | refine below_set ?_ GE138.out) | exact HB.out))) : w.heap.size ≤ gb137))
                                have n5_ := Aside0.mk ((by rw [hg]; exact (below_size (by repeat (first | (with_reducible first | exact HB.out | apply below_alloc | apply pw_below_drewN | apply below_drew1 | refine below_set ?_ GE132.out | refine below_set ?_ GE138.out) | exact HB.out))) : w.heap.size ≤ gb137))
                                have n6_ := Aside0.mk ((by rw [hg]; exact Nat.ne_of_lt (blk_lt (g := gb132) (o := .cells #[.int .u64 a0_0, .int .u64 a0_1] 25 (0, 0)) (by (with_reducible repeat (first | refine blk_drewN ?_ _ | refine blk_drew ?_ | refine blk_alloc ?_ _)); exact BK132.out)) : gb132 ≠ gb137))
                                have n7_ := Aside0.mk ((by rw [hg]; exact Nat.ne_of_gt (blk_lt (g := gb132) (o := .cells #[.int .u64 a0_0, .int .u64 a0_1] 25 (0, 0)) (by (with_reducible repeat (first | refine blk_drewN ?_ _ | refine blk_drew ?_ | refine blk_alloc ?_ _)); exact BK132.out)) : gb137 ≠ gb132))
                                have n8_ := Aside0.mk ((by rw [hg]; exact Nat.ne_of_lt (blk_lt (g := gb138) (o := .cells #[.int .u64 0, .int .u64 0] 25 (0, 0)) (by (with_reducible repeat (first | refine blk_drewN ?_ _ | refine blk_drew ?_ | refine blk_alloc ?_ _)); exact BK138.out)) : gb138 ≠ gb137))
                                have n9_ := Aside0.mk ((by rw [hg]; exact Nat.ne_of_gt (blk_lt (g := gb138) (o := .cells #[.int .u64 0, .int .u64 0] 25 (0, 0)) (by (with_reducible repeat (first | refine blk_drewN ?_ _ | refine blk_drew ?_ | refine blk_alloc ?_ _)); exact BK138.out)) : gb137 ≠ gb138))
                                clear BK132
                                clear BK138
                                clear HB
                                have BK132 := n0_
                                have BK138 := n1_
                                have HB := n2_
                                have BK137 := n3_
                                have GW137 := n4_
                                have GE137 := n5_
                                have NB132_137 := n6_
                                have NB137_132 := n7_
                                have NB138_137 := n8_
                                have NB137_138 := n9_
                                clear n0_ n1_ n2_ n3_ n4_ n5_ n6_ n7_ n8_ n9_
                                clear hb hbox hg
                                refine hK.out _ _ ⟨(blk_cell BK132.out 0).trans rfl, (blk_cell BK132.out 1).trans rfl⟩ (fun hHeld => ?_)
                                clear hK K
                                refine norm_ (a' := ?_) ?_ ?_
                                rotate_left
                                · show Act.put _ (some 3) _ = _
                                  simp only [Act.put, List.setIfInBounds_toArray, List.set_cons_zero, List.set_cons_succ, i64_w, i32_w]
                                  rfl
                                exact norm_ (by first | (simp only [putAll, Act.put, List.setIfInBounds_toArray, List.set_cons_zero, List.set_cons_succ]; done) | (simp only [putAll, Act.put, List.setIfInBounds_toArray, List.set_cons_zero, List.set_cons_succ]; rfl)) (hJ4_5 (gb137, gb138) _ ⟨hHeld, (by (with_reducible repeat (first | refine blk_drewN ?_ _ | refine blk_drew ?_ | refine blk_alloc ?_ _)); exact BK132.out), (by (with_reducible repeat (first | refine blk_drewN ?_ _ | refine blk_drew ?_ | refine blk_alloc ?_ _)); exact BK137.out), (by (with_reducible repeat (first | refine blk_drewN ?_ _ | refine blk_drew ?_ | refine blk_alloc ?_ _)); exact BK138.out), GW137.out, GE137.out, NB132_137.out, NB137_132.out, NB138_137.out, NB137_138.out, GW138.out, GE138.out, NB132_138.out, NB138_132.out, (by repeat (first | (with_reducible first | exact HB.out | apply below_alloc | apply pw_below_drewN | apply below_drew1 | refine below_set ?_ GE132.out | refine below_set ?_ GE138.out | refine below_set ?_ GE137.out) | exact HB.out))⟩)
                          · skip
                            rintro gb137 w12 ⟨hS_, h0_, h1_, h2_, h3_, h4_, h5_, h6_⟩
                            have n0_ : Aside0 (w12.heap[gb132]? = some (.cells #[.int .u64 a0_0, .int .u64 a0_1] 25 (0, 0))) := ⟨h0_⟩
                            have n1_ : Aside0 (w12.heap[gb137]? = some (.cells #[.int .u64 0, .int .u64 0] 25 (0, 0))) := ⟨h1_⟩
                            have n2_ : Aside0 (w.heap.size ≤ gb137) := ⟨h2_⟩
                            have n3_ : Aside0 (w.heap.size ≤ gb137) := ⟨h3_⟩
                            have n4_ : Aside0 (gb132 ≠ gb137) := ⟨h4_⟩
                            have n5_ : Aside0 (gb137 ≠ gb132) := ⟨h5_⟩
                            have n6_ : Aside0 (Below w.heap.size w w12) := ⟨h6_⟩
                            clear BK132
                            clear HB
                            clear h0_ h1_ h2_ h3_ h4_ h5_ h6_
                            have BK132 := n0_
                            have BK137 := n1_
                            have GW137 := n2_
                            have GE137 := n3_
                            have NB132_137 := n4_
                            have NB137_132 := n5_
                            have HB := n6_
                            clear n0_ n1_ n2_ n3_ n4_ n5_ n6_
                            have hHeld : w12.cell? ⟨gb132, 0, none⟩ = some (.int .u64 a0_0) ∧ w12.cell? ⟨gb132, 1, none⟩ = some (.int .u64 a0_1) := hS_
                            refine norm_ (a' := ?_) ?_ ?_
                            rotate_left
                            · simp only [putAll, Act.put, List.setIfInBounds_toArray, List.set_cons_zero, List.set_cons_succ]
                              rfl
                            refine two_ (i := 1) (j := 5) (Ni := some 6) (Nj := some 4) #[true, true, true, false, true, false, false, false] #[true, false, true, false, true, true, false, false] rfl rfl rfl rfl (two_of HT_.out (by kernel_rfl)) (by decide) (by decide) (fun K hK => ?_) (fun K hK => ?_)
                            · skip
                              refine goes_ Try.func5 (by kernel_rfl) rfl #[.agg #[.int .u64 a0_0, .int .u64 a0_1]] (by rfl) rfl rfl (by (try simp only [List.map_toArray, List.map_cons, List.map_nil]); first | done | rfl | (simp only [List.length_drop, List.length_take]; rfl)) ?_
                              with_reducible refine (impl_Sibling.calls a0_0 a0_1 t133 t134 _ A2.out).mono ?_
                              rintro e w13 ⟨rfl, hb⟩
                              refine ⟨_, rfl, ?_⟩
                              have n0_ := Aside0.mk (blk_below (g := gb132) (o := .cells #[.int .u64 a0_0, .int .u64 a0_1] 25 (0, 0)) (by (with_reducible repeat (first | refine blk_drewN ?_ _ | refine blk_drew ?_ | refine blk_alloc ?_ _)); exact BK132.out) hb)
                              have n1_ := Aside0.mk (blk_below (g := gb137) (o := .cells #[.int .u64 0, .int .u64 0] 25 (0, 0)) (by (with_reducible repeat (first | refine blk_drewN ?_ _ | refine blk_drew ?_ | refine blk_alloc ?_ _)); exact BK137.out) hb)
                              have n2_ := Aside0.mk (below_step (by repeat (first | (with_reducible first | exact HB.out | apply below_alloc | apply pw_below_drewN | apply below_drew1 | refine below_set ?_ GE132.out | refine below_set ?_ GE137.out) | exact HB.out)) hb)
                              clear BK132
                              clear BK137
                              clear HB
                              have BK132 := n0_
                              have BK137 := n1_
                              have HB := n2_
                              clear n0_ n1_ n2_
                              (try clear hb)
                              (try clear hb2)
                              (try clear hk)
                              (try clear hi)
                              refine hK.out _ _ ⟨(blk_cell BK132.out 0).trans rfl, (blk_cell BK132.out 1).trans rfl⟩ (fun hHeld => ?_)
                              clear hK K
                              refine norm_ (a' := ?_) ?_ ?_
                              rotate_left
                              · show Act.put _ (some 6) _ = _
                                simp only [Act.put, List.setIfInBounds_toArray, List.set_cons_zero, List.set_cons_succ, i64_w, i32_w]
                                rfl
                              exact norm_ (by first | (simp only [putAll, Act.put, List.setIfInBounds_toArray, List.set_cons_zero, List.set_cons_succ]; done) | (simp only [putAll, Act.put, List.setIfInBounds_toArray, List.set_cons_zero, List.set_cons_succ]; rfl)) (hJ1_4 (gb137) _ ⟨hHeld, (by (with_reducible repeat (first | refine blk_drewN ?_ _ | refine blk_drew ?_ | refine blk_alloc ?_ _)); exact BK132.out), (by (with_reducible repeat (first | refine blk_drewN ?_ _ | refine blk_drew ?_ | refine blk_alloc ?_ _)); exact BK137.out), GW137.out, GE137.out, NB132_137.out, NB137_132.out, (by repeat (first | (with_reducible first | exact HB.out | apply below_alloc | apply pw_below_drewN | apply below_drew1 | refine below_set ?_ GE132.out | refine below_set ?_ GE137.out) | exact HB.out))⟩)
                            · skip
                              refine box_step ?hg (N := 4) ?hd (cs := #[.int .u64 0, .int .u64 0]) (t := 25) ?hr ?_; (case hd => rfl); (case hg => rfl); (case hr => first | (go_simp; done) | (go_simp; rfl))
                              intro gb138 hg w13 hbox hb
                              have n0_ := Aside0.mk (blk_below (g := gb132) (o := .cells #[.int .u64 a0_0, .int .u64 a0_1] 25 (0, 0)) (by (with_reducible repeat (first | refine blk_drewN ?_ _ | refine blk_drew ?_ | refine blk_alloc ?_ _)); exact BK132.out) hb)
                              have n1_ := Aside0.mk (blk_below (g := gb137) (o := .cells #[.int .u64 0, .int .u64 0] 25 (0, 0)) (by (with_reducible repeat (first | refine blk_drewN ?_ _ | refine blk_drew ?_ | refine blk_alloc ?_ _)); exact BK137.out) hb)
                              have n2_ := Aside0.mk (below_step (by repeat (first | (with_reducible first | exact HB.out | apply below_alloc | apply pw_below_drewN | apply below_drew1 | refine below_set ?_ GE132.out | refine below_set ?_ GE137.out) | exact HB.out)) hb)
                              have n3_ := Aside0.mk (hbox)
                              have n4_ := Aside0.mk ((by rw [hg]; exact (below_size (by repeat (first | (with_reducible first | exact HB.out | apply below_alloc | apply pw_below_drewN | apply below_drew1 | refine below_set ?_ GE132.out | refine below_set ?_ GE137.out) | exact HB.out))) : w.heap.size ≤ gb138))
                              have n5_ := Aside0.mk ((by rw [hg]; exact (below_size (by repeat (first | (with_reducible first | exact HB.out | apply below_alloc | apply pw_below_drewN | apply below_drew1 | refine below_set ?_ GE132.out | refine below_set ?_ GE137.out) | exact HB.out))) : w.heap.size ≤ gb138))
                              have n6_ := Aside0.mk ((by rw [hg]; exact Nat.ne_of_lt (blk_lt (g := gb132) (o := .cells #[.int .u64 a0_0, .int .u64 a0_1] 25 (0, 0)) (by (with_reducible repeat (first | refine blk_drewN ?_ _ | refine blk_drew ?_ | refine blk_alloc ?_ _)); exact BK132.out)) : gb132 ≠ gb138))
                              have n7_ := Aside0.mk ((by rw [hg]; exact Nat.ne_of_gt (blk_lt (g := gb132) (o := .cells #[.int .u64 a0_0, .int .u64 a0_1] 25 (0, 0)) (by (with_reducible repeat (first | refine blk_drewN ?_ _ | refine blk_drew ?_ | refine blk_alloc ?_ _)); exact BK132.out)) : gb138 ≠ gb132))
                              have n8_ := Aside0.mk ((by rw [hg]; exact Nat.ne_of_lt (blk_lt (g := gb137) (o := .cells #[.int .u64 0, .int .u64 0] 25 (0, 0)) (by (with_reducible repeat (first | refine blk_drewN ?_ _ | refine blk_drew ?_ | refine blk_alloc ?_ _)); exact BK137.out)) : gb137 ≠ gb138))
                              have n9_ := Aside0.mk ((by rw [hg]; exact Nat.ne_of_gt (blk_lt (g := gb137) (o := .cells #[.int .u64 0, .int .u64 0] 25 (0, 0)) (by (with_reducible repeat (first | refine blk_drewN ?_ _ | refine blk_drew ?_ | refine blk_alloc ?_ _)); exact BK137.out)) : gb138 ≠ gb137))
                              clear BK132
                              clear BK137
                              clear HB
                              have BK132 := n0_
                              have BK137 := n1_
                              have HB := n2_
                              have BK138 := n3_
                              have GW138 := n4_
                              have GE138 := n5_
                              have NB132_138 := n6_
                              have NB138_132 := n7_
                              have NB137_138 := n8_
                              have NB138_137 := n9_
                              clear n0_ n1_ n2_ n3_ n4_ n5_ n6_ n7_ n8_ n9_
                              clear hb hbox hg
                              refine hK.out _ _ ⟨(blk_cell BK132.out 0).trans rfl, (blk_cell BK132.out 1).trans rfl⟩ (fun hHeld => ?_)
                              clear hK K
                              refine norm_ (a' := ?_) ?_ ?_
                              rotate_left
                              · show Act.put _ (some 4) _ = _
                                simp only [Act.put, List.setIfInBounds_toArray, List.set_cons_zero, List.set_cons_succ, i64_w, i32_w]
                                rfl
                              exact norm_ (by first | (simp only [putAll, Act.put, List.setIfInBounds_toArray, List.set_cons_zero, List.set_cons_succ]; done) | (simp only [putAll, Act.put, List.setIfInBounds_toArray, List.set_cons_zero, List.set_cons_succ]; rfl)) (hJ4_5 (gb137, gb138) _ ⟨hHeld, (by (with_reducible repeat (first | refine blk_drewN ?_ _ | refine blk_drew ?_ | refine blk_alloc ?_ _)); exact BK132.out), (by (with_reducible repeat (first | refine blk_drewN ?_ _ | refine blk_drew ?_ | refine blk_alloc ?_ _)); exact BK137.out), (by (with_reducible repeat (first | refine blk_drewN ?_ _ | refine blk_drew ?_ | refine blk_alloc ?_ _)); exact BK138.out), GW137.out, GE137.out, NB132_137.out, NB137_132.out, NB138_137.out, NB137_138.out, GW138.out, GE138.out, NB132_138.out, NB138_132.out, (by repeat (first | (with_reducible first | exact HB.out | apply below_alloc | apply pw_below_drewN | apply below_drew1 | refine below_set ?_ GE132.out | refine below_set ?_ GE137.out | refine below_set ?_ GE138.out) | exact HB.out))⟩)
                        · skip
                          rintro _ w12 ⟨hS_, h0_, h1_⟩
                          have n0_ : Aside0 (w12.heap[gb132]? = some (.cells #[.int .u64 a0_0, .int .u64 a0_1] 25 (0, 0))) := ⟨h0_⟩
                          have n1_ : Aside0 (Below w.heap.size w w12) := ⟨h1_⟩
                          clear BK132
                          clear HB
                          clear h0_ h1_
                          have BK132 := n0_
                          have HB := n1_
                          clear n0_ n1_
                          have hHeld : w12.cell? ⟨gb132, 0, none⟩ = some (.int .u64 a0_0) ∧ w12.cell? ⟨gb132, 1, none⟩ = some (.int .u64 a0_1) := hS_
                          refine norm_ (a' := ?_) ?_ ?_
                          rotate_left
                          · simp only [putAll, Act.put, List.setIfInBounds_toArray, List.set_cons_zero, List.set_cons_succ]
                            rfl
                          refine three_ (i := 3) (j := 4) (k := 5) (Ni := some 8) (Nj := some 3) (Nk := some 4) #[true, true, true, true, false, false, false, false] #[true, true, true, false, true, false, false, false] #[true, true, true, false, false, true, false, false] rfl rfl rfl rfl rfl rfl (three_of HT_.out (by kernel_rfl)) (by decide) (by decide) (by decide) (fun K hK => ?_) (fun K hK => ?_) (fun K hK => ?_)
                          · skip
                            refine goes_ Try.func6 (by kernel_rfl) rfl #[.agg #[.int .u64 a0_0, .int .u64 a0_1]] (by rfl) rfl rfl (by (try simp only [List.map_toArray, List.map_cons, List.map_nil]); first | done | rfl | (simp only [List.length_drop, List.length_take]; rfl)) ?_
                            with_reducible refine (impl_Parent.calls a0_0 a0_1 t135 t136 _ A3.out).mono ?_
                            rintro e w13 ⟨rfl, hb⟩
                            refine ⟨_, rfl, ?_⟩
                            have n0_ := Aside0.mk (blk_below (g := gb132) (o := .cells #[.int .u64 a0_0, .int .u64 a0_1] 25 (0, 0)) (by (with_reducible repeat (first | refine blk_drewN ?_ _ | refine blk_drew ?_ | refine blk_alloc ?_ _)); exact BK132.out) hb)
                            have n1_ := Aside0.mk (below_step (by repeat (first | (with_reducible first | exact HB.out | apply below_alloc | apply pw_below_drewN | apply below_drew1 | refine below_set ?_ GE132.out) | exact HB.out)) hb)
                            clear BK132
                            clear HB
                            have BK132 := n0_
                            have HB := n1_
                            clear n0_ n1_
                            (try clear hb)
                            (try clear hb2)
                            (try clear hk)
                            (try clear hi)
                            refine hK.out _ _ ⟨(blk_cell BK132.out 0).trans rfl, (blk_cell BK132.out 1).trans rfl⟩ (fun hHeld => ?_)
                            clear hK K
                            refine norm_ (a' := ?_) ?_ ?_
                            rotate_left
                            · show Act.put _ (some 8) _ = _
                              simp only [Act.put, List.setIfInBounds_toArray, List.set_cons_zero, List.set_cons_succ, i64_w, i32_w]
                              rfl
                            exact norm_ (by first | (simp only [putAll, Act.put, List.setIfInBounds_toArray, List.set_cons_zero, List.set_cons_succ]; done) | (simp only [putAll, Act.put, List.setIfInBounds_toArray, List.set_cons_zero, List.set_cons_succ]; rfl)) (hJ1_3 () _ ⟨hHeld, (by (with_reducible repeat (first | refine blk_drewN ?_ _ | refine blk_drew ?_ | refine blk_alloc ?_ _)); exact BK132.out), (by repeat (first | (with_reducible first | exact HB.out | apply below_alloc | apply pw_below_drewN | apply below_drew1 | refine below_set ?_ GE132.out) | exact HB.out))⟩)
                          · skip
                            refine box_step ?hg (N := 3) ?hd (cs := #[.int .u64 0, .int .u64 0]) (t := 25) ?hr ?_; (case hd => rfl); (case hg => rfl); (case hr => first | (go_simp; done) | (go_simp; rfl))
                            intro gb137 hg w13 hbox hb
                            have n0_ := Aside0.mk (blk_below (g := gb132) (o := .cells #[.int .u64 a0_0, .int .u64 a0_1] 25 (0, 0)) (by (with_reducible repeat (first | refine blk_drewN ?_ _ | refine blk_drew ?_ | refine blk_alloc ?_ _)); exact BK132.out) hb)
                            have n1_ := Aside0.mk (below_step (by repeat (first | (with_reducible first | exact HB.out | apply below_alloc | apply pw_below_drewN | apply below_drew1 | refine below_set ?_ GE132.out) | exact HB.out)) hb)
                            have n2_ := Aside0.mk (hbox)
                            have n3_ := Aside0.mk ((by rw [hg]; exact (below_size (by repeat (first | (with_reducible first | exact HB.out | apply below_alloc | apply pw_below_drewN | apply below_drew1 | refine below_set ?_ GE132.out) | exact HB.out))) : w.heap.size ≤ gb137))
                            have n4_ := Aside0.mk ((by rw [hg]; exact (below_size (by repeat (first | (with_reducible first | exact HB.out | apply below_alloc | apply pw_below_drewN | apply below_drew1 | refine below_set ?_ GE132.out) | exact HB.out))) : w.heap.size ≤ gb137))
                            have n5_ := Aside0.mk ((by rw [hg]; exact Nat.ne_of_lt (blk_lt (g := gb132) (o := .cells #[.int .u64 a0_0, .int .u64 a0_1] 25 (0, 0)) (by (with_reducible repeat (first | refine blk_drewN ?_ _ | refine blk_drew ?_ | refine blk_alloc ?_ _)); exact BK132.out)) : gb132 ≠ gb137))
                            have n6_ := Aside0.mk ((by rw [hg]; exact Nat.ne_of_gt (blk_lt (g := gb132) (o := .cells #[.int .u64 a0_0, .int .u64 a0_1] 25 (0, 0)) (by (with_reducible repeat (first | refine blk_drewN ?_ _ | refine blk_drew ?_ | refine blk_alloc ?_ _)); exact BK132.out)) : gb137 ≠ gb132))
                            clear BK132
                            clear HB
                            have BK132 := n0_
                            have HB := n1_
                            have BK137 := n2_
                            have GW137 := n3_
                            have GE137 := n4_
                            have NB132_137 := n5_
                            have NB137_132 := n6_
                            clear n0_ n1_ n2_ n3_ n4_ n5_ n6_
                            clear hb hbox hg
                            refine hK.out _ _ ⟨(blk_cell BK132.out 0).trans rfl, (blk_cell BK132.out 1).trans rfl⟩ (fun hHeld => ?_)
                            clear hK K
                            refine norm_ (a' := ?_) ?_ ?_
                            rotate_left
                            · show Act.put _ (some 3) _ = _
                              simp only [Act.put, List.setIfInBounds_toArray, List.set_cons_zero, List.set_cons_succ, i64_w, i32_w]
                              rfl
                            exact norm_ (by first | (simp only [putAll, Act.put, List.setIfInBounds_toArray, List.set_cons_zero, List.set_cons_succ]; done) | (simp only [putAll, Act.put, List.setIfInBounds_toArray, List.set_cons_zero, List.set_cons_succ]; rfl)) (hJ1_4 (gb137) _ ⟨hHeld, (by (with_reducible repeat (first | refine blk_drewN ?_ _ | refine blk_drew ?_ | refine blk_alloc ?_ _)); exact BK132.out), (by (with_reducible repeat (first | refine blk_drewN ?_ _ | refine blk_drew ?_ | refine blk_alloc ?_ _)); exact BK137.out), GW137.out, GE137.out, NB132_137.out, NB137_132.out, (by repeat (first | (with_reducible first | exact HB.out | apply below_alloc | apply pw_below_drewN | apply below_drew1 | refine below_set ?_ GE132.out | refine below_set ?_ GE137.out) | exact HB.out))⟩)
                          · skip
                            refine box_step ?hg (N := 4) ?hd (cs := #[.int .u64 0, .int .u64 0]) (t := 25) ?hr ?_; (case hd => rfl); (case hg => rfl); (case hr => first | (go_simp; done) | (go_simp; rfl))
                            intro gb138 hg w13 hbox hb
                            have n0_ := Aside0.mk (blk_below (g := gb132) (o := .cells #[.int .u64 a0_0, .int .u64 a0_1] 25 (0, 0)) (by (with_reducible repeat (first | refine blk_drewN ?_ _ | refine blk_drew ?_ | refine blk_alloc ?_ _)); exact BK132.out) hb)
                            have n1_ := Aside0.mk (below_step (by repeat (first | (with_reducible first | exact HB.out | apply below_alloc | apply pw_below_drewN | apply below_drew1 | refine below_set ?_ GE132.out) | exact HB.out)) hb)
                            have n2_ := Aside0.mk (hbox)
                            have n3_ := Aside0.mk ((by rw [hg]; exact (below_size (by repeat (first | (with_reducible first | exact HB.out | apply below_alloc | apply pw_below_drewN | apply below_drew1 | refine below_set ?_ GE132.out) | exact HB.out))) : w.heap.size ≤ gb138))
                            have n4_ := Aside0.mk ((by rw [hg]; exact (below_size (by repeat (first | (with_reducible first | exact HB.out | apply below_alloc | apply pw_below_drewN | apply below_drew1 | refine below_set ?_ GE132.out) | exact HB.out))) : w.heap.size ≤ gb138))
                            have n5_ := Aside0.mk ((by rw [hg]; exact Nat.ne_of_lt (blk_lt (g := gb132) (o := .cells #[.int .u64 a0_0, .int .u64 a0_1] 25 (0, 0)) (by (with_reducible repeat (first | refine blk_drewN ?_ _ | refine blk_drew ?_ | refine blk_alloc ?_ _)); exact BK132.out)) : gb132 ≠ gb138))
                            have n6_ := Aside0.mk ((by rw [hg]; exact Nat.ne_of_gt (blk_lt (g := gb132) (o := .cells #[.int .u64 a0_0, .int .u64 a0_1] 25 (0, 0)) (by (with_reducible repeat (first | refine blk_drewN ?_ _ | refine blk_drew ?_ | refine blk_alloc ?_ _)); exact BK132.out)) : gb138 ≠ gb132))
                            clear BK132
                            clear HB
                            have BK132 := n0_
                            have HB := n1_
                            have BK138 := n2_
                            have GW138 := n3_
                            have GE138 := n4_
                            have NB132_138 := n5_
                            have NB138_132 := n6_
                            clear n0_ n1_ n2_ n3_ n4_ n5_ n6_
                            clear hb hbox hg
                            refine hK.out _ _ ⟨(blk_cell BK132.out 0).trans rfl, (blk_cell BK132.out 1).trans rfl⟩ (fun hHeld => ?_)
                            clear hK K
                            refine norm_ (a' := ?_) ?_ ?_
                            rotate_left
                            · show Act.put _ (some 4) _ = _
                              simp only [Act.put, List.setIfInBounds_toArray, List.set_cons_zero, List.set_cons_succ, i64_w, i32_w]
                              rfl
                            exact norm_ (by first | (simp only [putAll, Act.put, List.setIfInBounds_toArray, List.set_cons_zero, List.set_cons_succ]; done) | (simp only [putAll, Act.put, List.setIfInBounds_toArray, List.set_cons_zero, List.set_cons_succ]; rfl)) (hJ1_5 (gb138) _ ⟨hHeld, (by (with_reducible repeat (first | refine blk_drewN ?_ _ | refine blk_drew ?_ | refine blk_alloc ?_ _)); exact BK132.out), (by (with_reducible repeat (first | refine blk_drewN ?_ _ | refine blk_drew ?_ | refine blk_alloc ?_ _)); exact BK138.out), GW138.out, GE138.out, NB132_138.out, NB138_132.out, (by repeat (first | (with_reducible first | exact HB.out | apply below_alloc | apply pw_below_drewN | apply below_drew1 | refine below_set ?_ GE132.out | refine below_set ?_ GE138.out) | exact HB.out))⟩)
                      · skip
                        rintro ⟨gb137, gb138⟩ w13 ⟨hS_, h0_, h1_, h2_, h3_, h4_, h5_, h6_, h7_, h8_, h9_, h10_, h11_, h12_, h13_⟩
                        have n0_ : Aside0 (w13.heap[gb132]? = some (.cells #[.int .u64 a0_0, .int .u64 a0_1] 25 (0, 0))) := ⟨h0_⟩
                        have n1_ : Aside0 (w13.heap[gb137]? = some (.cells #[.int .u64 0, .int .u64 0] 25 (0, 0))) := ⟨h1_⟩
                        have n2_ : Aside0 (w13.heap[gb138]? = some (.cells #[.int .u64 0, .int .u64 0] 25 (0, 0))) := ⟨h2_⟩
                        have n3_ : Aside0 (w.heap.size ≤ gb137) := ⟨h3_⟩
                        have n4_ : Aside0 (w.heap.size ≤ gb137) := ⟨h4_⟩
                        have n5_ : Aside0 (gb132 ≠ gb137) := ⟨h5_⟩
                        have n6_ : Aside0 (gb137 ≠ gb132) := ⟨h6_⟩
                        have n7_ : Aside0 (gb138 ≠ gb137) := ⟨h7_⟩
                        have n8_ : Aside0 (gb137 ≠ gb138) := ⟨h8_⟩
                        have n9_ : Aside0 (w.heap.size ≤ gb138) := ⟨h9_⟩
                        have n10_ : Aside0 (w.heap.size ≤ gb138) := ⟨h10_⟩
                        have n11_ : Aside0 (gb132 ≠ gb138) := ⟨h11_⟩
                        have n12_ : Aside0 (gb138 ≠ gb132) := ⟨h12_⟩
                        have n13_ : Aside0 (Below w.heap.size w w13) := ⟨h13_⟩
                        clear BK132
                        clear HB
                        clear h0_ h1_ h2_ h3_ h4_ h5_ h6_ h7_ h8_ h9_ h10_ h11_ h12_ h13_
                        have BK132 := n0_
                        have BK137 := n1_
                        have BK138 := n2_
                        have GW137 := n3_
                        have GE137 := n4_
                        have NB132_137 := n5_
                        have NB137_132 := n6_
                        have NB138_137 := n7_
                        have NB137_138 := n8_
                        have GW138 := n9_
                        have GE138 := n10_
                        have NB132_138 := n11_
                        have NB138_132 := n12_
                        have HB := n13_
                        clear n0_ n1_ n2_ n3_ n4_ n5_ n6_ n7_ n8_ n9_ n10_ n11_ n12_ n13_
                        have hHeld : w13.cell? ⟨gb132, 0, none⟩ = some (.int .u64 a0_0) ∧ w13.cell? ⟨gb132, 1, none⟩ = some (.int .u64 a0_1) := hS_
                        refine norm_ (a' := ?_) ?_ ?_
                        rotate_left
                        · simp only [putAll, Act.put, List.setIfInBounds_toArray, List.set_cons_zero, List.set_cons_succ]
                          rfl
                        refine one_ (i := 1) (N := some 6) #[true, true, true, false, true, true, false, false] rfl rfl (one_of HT_.out (by kernel_rfl)) (by decide) (fun K hK => ?_)
                        refine goes_ Try.func5 (by kernel_rfl) rfl #[.agg #[.int .u64 a0_0, .int .u64 a0_1]] (by rfl) rfl rfl (by (try simp only [List.map_toArray, List.map_cons, List.map_nil]); first | done | rfl | (simp only [List.length_drop, List.length_take]; rfl)) ?_
                        with_reducible refine (impl_Sibling.calls a0_0 a0_1 t133 t134 _ A2.out).mono ?_
                        rintro e w14 ⟨rfl, hb⟩
                        refine ⟨_, rfl, ?_⟩
                        have n0_ := Aside0.mk (blk_below (g := gb132) (o := .cells #[.int .u64 a0_0, .int .u64 a0_1] 25 (0, 0)) (by (with_reducible repeat (first | refine blk_drewN ?_ _ | refine blk_drew ?_ | refine blk_alloc ?_ _)); exact BK132.out) hb)
                        have n1_ := Aside0.mk (blk_below (g := gb137) (o := .cells #[.int .u64 0, .int .u64 0] 25 (0, 0)) (by (with_reducible repeat (first | refine blk_drewN ?_ _ | refine blk_drew ?_ | refine blk_alloc ?_ _)); exact BK137.out) hb)
                        have n2_ := Aside0.mk (blk_below (g := gb138) (o := .cells #[.int .u64 0, .int .u64 0] 25 (0, 0)) (by (with_reducible repeat (first | refine blk_drewN ?_ _ | refine blk_drew ?_ | refine blk_alloc ?_ _)); exact BK138.out) hb)
                        have n3_ := Aside0.mk (below_step (by repeat (first | (with_reducible first | exact HB.out | apply below_alloc | apply pw_below_drewN | apply below_drew1 | refine below_set ?_ GE132.out | refine below_set ?_ GE137.out | refine below_set ?_ GE138.out) | exact HB.out)) hb)
                        clear BK132
                        clear BK137
                        clear BK138
                        clear HB
                        have BK132 := n0_
                        have BK137 := n1_
                        have BK138 := n2_
                        have HB := n3_
                        clear n0_ n1_ n2_ n3_
                        (try clear hb)
                        (try clear hb2)
                        (try clear hk)
                        (try clear hi)
                        refine hK.out _ _ ⟨(blk_cell BK132.out 0).trans rfl, (blk_cell BK132.out 1).trans rfl⟩ (fun hHeld => ?_)
                        clear hK K
                        refine norm_ (a' := ?_) ?_ ?_
                        rotate_left
                        · show Act.put _ (some 6) _ = _
                          simp only [Act.put, List.setIfInBounds_toArray, List.set_cons_zero, List.set_cons_succ, i64_w, i32_w]
                          rfl
                        exact norm_ (by first | (simp only [putAll, Act.put, List.setIfInBounds_toArray, List.set_cons_zero, List.set_cons_succ]; done) | (simp only [putAll, Act.put, List.setIfInBounds_toArray, List.set_cons_zero, List.set_cons_succ]; rfl)) (hJ1_4_5 (gb137, gb138) _ ⟨hHeld, (by (with_reducible repeat (first | refine blk_drewN ?_ _ | refine blk_drew ?_ | refine blk_alloc ?_ _)); exact BK132.out), (by (with_reducible repeat (first | refine blk_drewN ?_ _ | refine blk_drew ?_ | refine blk_alloc ?_ _)); exact BK137.out), (by (with_reducible repeat (first | refine blk_drewN ?_ _ | refine blk_drew ?_ | refine blk_alloc ?_ _)); exact BK138.out), GW137.out, GE137.out, NB132_137.out, NB137_132.out, NB138_137.out, NB137_138.out, GW138.out, GE138.out, NB132_138.out, NB138_132.out, (by repeat (first | (with_reducible first | exact HB.out | apply below_alloc | apply pw_below_drewN | apply below_drew1 | refine below_set ?_ GE132.out | refine below_set ?_ GE137.out | refine below_set ?_ GE138.out) | exact HB.out))⟩)
                    · skip
                      rintro gb138 w13 ⟨hS_, h0_, h1_, h2_, h3_, h4_, h5_, h6_⟩
                      have n0_ : Aside0 (w13.heap[gb132]? = some (.cells #[.int .u64 a0_0, .int .u64 a0_1] 25 (0, 0))) := ⟨h0_⟩
                      have n1_ : Aside0 (w13.heap[gb138]? = some (.cells #[.int .u64 0, .int .u64 0] 25 (0, 0))) := ⟨h1_⟩
                      have n2_ : Aside0 (w.heap.size ≤ gb138) := ⟨h2_⟩
                      have n3_ : Aside0 (w.heap.size ≤ gb138) := ⟨h3_⟩
                      have n4_ : Aside0 (gb132 ≠ gb138) := ⟨h4_⟩
                      have n5_ : Aside0 (gb138 ≠ gb132) := ⟨h5_⟩
                      have n6_ : Aside0 (Below w.heap.size w w13) := ⟨h6_⟩
                      clear BK132
                      clear HB
                      clear h0_ h1_ h2_ h3_ h4_ h5_ h6_
                      have BK132 := n0_
                      have BK138 := n1_
                      have GW138 := n2_
                      have GE138 := n3_
                      have NB132_138 := n4_
                      have NB138_132 := n5_
                      have HB := n6_
                      clear n0_ n1_ n2_ n3_ n4_ n5_ n6_
                      have hHeld : w13.cell? ⟨gb132, 0, none⟩ = some (.int .u64 a0_0) ∧ w13.cell? ⟨gb132, 1, none⟩ = some (.int .u64 a0_1) := hS_
                      refine norm_ (a' := ?_) ?_ ?_
                      rotate_left
                      · simp only [putAll, Act.put, List.setIfInBounds_toArray, List.set_cons_zero, List.set_cons_succ]
                        rfl
                      refine two_ (i := 3) (j := 4) (Ni := some 8) (Nj := some 3) #[true, true, true, true, false, true, false, false] #[true, true, true, false, true, true, false, false] rfl rfl rfl rfl (two_of HT_.out (by kernel_rfl)) (by decide) (by decide) (fun K hK => ?_) (fun K hK => ?_)
                      · skip
                        refine goes_ Try.func6 (by kernel_rfl) rfl #[.agg #[.int .u64 a0_0, .int .u64 a0_1]] (by rfl) rfl rfl (by (try simp only [List.map_toArray, List.map_cons, List.map_nil]); first | done | rfl | (simp only [List.length_drop, List.length_take]; rfl)) ?_
                        with_reducible refine (impl_Parent.calls a0_0 a0_1 t135 t136 _ A3.out).mono ?_
                        rintro e w14 ⟨rfl, hb⟩
                        refine ⟨_, rfl, ?_⟩
                        have n0_ := Aside0.mk (blk_below (g := gb132) (o := .cells #[.int .u64 a0_0, .int .u64 a0_1] 25 (0, 0)) (by (with_reducible repeat (first | refine blk_drewN ?_ _ | refine blk_drew ?_ | refine blk_alloc ?_ _)); exact BK132.out) hb)
                        have n1_ := Aside0.mk (blk_below (g := gb138) (o := .cells #[.int .u64 0, .int .u64 0] 25 (0, 0)) (by (with_reducible repeat (first | refine blk_drewN ?_ _ | refine blk_drew ?_ | refine blk_alloc ?_ _)); exact BK138.out) hb)
                        have n2_ := Aside0.mk (below_step (by repeat (first | (with_reducible first | exact HB.out | apply below_alloc | apply pw_below_drewN | apply below_drew1 | refine below_set ?_ GE132.out | refine below_set ?_ GE138.out) | exact HB.out)) hb)
                        clear BK132
                        clear BK138
                        clear HB
                        have BK132 := n0_
                        have BK138 := n1_
                        have HB := n2_
                        clear n0_ n1_ n2_
                        (try clear hb)
                        (try clear hb2)
                        (try clear hk)
                        (try clear hi)
                        refine hK.out _ _ ⟨(blk_cell BK132.out 0).trans rfl, (blk_cell BK132.out 1).trans rfl⟩ (fun hHeld => ?_)
                        clear hK K
                        refine norm_ (a' := ?_) ?_ ?_
                        rotate_left
                        · show Act.put _ (some 8) _ = _
                          simp only [Act.put, List.setIfInBounds_toArray, List.set_cons_zero, List.set_cons_succ, i64_w, i32_w]
                          rfl
                        exact norm_ (by first | (simp only [putAll, Act.put, List.setIfInBounds_toArray, List.set_cons_zero, List.set_cons_succ]; done) | (simp only [putAll, Act.put, List.setIfInBounds_toArray, List.set_cons_zero, List.set_cons_succ]; rfl)) (hJ1_3_5 (gb138) _ ⟨hHeld, (by (with_reducible repeat (first | refine blk_drewN ?_ _ | refine blk_drew ?_ | refine blk_alloc ?_ _)); exact BK132.out), (by (with_reducible repeat (first | refine blk_drewN ?_ _ | refine blk_drew ?_ | refine blk_alloc ?_ _)); exact BK138.out), GW138.out, GE138.out, NB132_138.out, NB138_132.out, (by repeat (first | (with_reducible first | exact HB.out | apply below_alloc | apply pw_below_drewN | apply below_drew1 | refine below_set ?_ GE132.out | refine below_set ?_ GE138.out) | exact HB.out))⟩)
                      · skip
                        refine box_step ?hg (N := 3) ?hd (cs := #[.int .u64 0, .int .u64 0]) (t := 25) ?hr ?_; (case hd => rfl); (case hg => rfl); (case hr => first | (go_simp; done) | (go_simp; rfl))
                        intro gb137 hg w14 hbox hb
                        have n0_ := Aside0.mk (blk_below (g := gb132) (o := .cells #[.int .u64 a0_0, .int .u64 a0_1] 25 (0, 0)) (by (with_reducible repeat (first | refine blk_drewN ?_ _ | refine blk_drew ?_ | refine blk_alloc ?_ _)); exact BK132.out) hb)
                        have n1_ := Aside0.mk (blk_below (g := gb138) (o := .cells #[.int .u64 0, .int .u64 0] 25 (0, 0)) (by (with_reducible repeat (first | refine blk_drewN ?_ _ | refine blk_drew ?_ | refine blk_alloc ?_ _)); exact BK138.out) hb)
                        have n2_ := Aside0.mk (below_step (by repeat (first | (with_reducible first | exact HB.out | apply below_alloc | apply pw_below_drewN | apply below_drew1 | refine below_set ?_ GE132.out | refine below_set ?_ GE138.out) | exact HB.out)) hb)
                        have n3_ := Aside0.mk (hbox)
                        have n4_ := Aside0.mk ((by rw [hg]; exact (below_size (by repeat (first | (with_reducible first | exact HB.out | apply below_alloc | apply pw_below_drewN | apply below_drew1 | refine below_set ?_ GE132.out | refine below_set ?_ GE138.out) | exact HB.out))) : w.heap.size ≤ gb137))
                        have n5_ := Aside0.mk ((by rw [hg]; exact (below_size (by repeat (first | (with_reducible first | exact HB.out | apply below_alloc | apply pw_below_drewN | apply below_drew1 | refine below_set ?_ GE132.out | refine below_set ?_ GE138.out) | exact HB.out))) : w.heap.size ≤ gb137))
                        have n6_ := Aside0.mk ((by rw [hg]; exact Nat.ne_of_lt (blk_lt (g := gb132) (o := .cells #[.int .u64 a0_0, .int .u64 a0_1] 25 (0, 0)) (by (with_reducible repeat (first | refine blk_drewN ?_ _ | refine blk_drew ?_ | refine blk_alloc ?_ _)); exact BK132.out)) : gb132 ≠ gb137))
                        have n7_ := Aside0.mk ((by rw [hg]; exact Nat.ne_of_gt (blk_lt (g := gb132) (o := .cells #[.int .u64 a0_0, .int .u64 a0_1] 25 (0, 0)) (by (with_reducible repeat (first | refine blk_drewN ?_ _ | refine blk_drew ?_ | refine blk_alloc ?_ _)); exact BK132.out)) : gb137 ≠ gb132))
                        have n8_ := Aside0.mk ((by rw [hg]; exact Nat.ne_of_lt (blk_lt (g := gb138) (o := .cells #[.int .u64 0, .int .u64 0] 25 (0, 0)) (by (with_reducible repeat (first | refine blk_drewN ?_ _ | refine blk_drew ?_ | refine blk_alloc ?_ _)); exact BK138.out)) : gb138 ≠ gb137))
                        have n9_ := Aside0.mk ((by rw [hg]; exact Nat.ne_of_gt (blk_lt (g := gb138) (o := .cells #[.int .u64 0, .int .u64 0] 25 (0, 0)) (by (with_reducible repeat (first | refine blk_drewN ?_ _ | refine blk_drew ?_ | refine blk_alloc ?_ _)); exact BK138.out)) : gb137 ≠ gb138))
                        clear BK132
                        clear BK138
                        clear HB
                        have BK132 := n0_
                        have BK138 := n1_
                        have HB := n2_
                        have BK137 := n3_
                        have GW137 := n4_
                        have GE137 := n5_
                        have NB132_137 := n6_
                        have NB137_132 := n7_
                        have NB138_137 := n8_
                        have NB137_138 := n9_
                        clear n0_ n1_ n2_ n3_ n4_ n5_ n6_ n7_ n8_ n9_
                        clear hb hbox hg
                        refine hK.out _ _ ⟨(blk_cell BK132.out 0).trans rfl, (blk_cell BK132.out 1).trans rfl⟩ (fun hHeld => ?_)
                        clear hK K
                        refine norm_ (a' := ?_) ?_ ?_
                        rotate_left
                        · show Act.put _ (some 3) _ = _
                          simp only [Act.put, List.setIfInBounds_toArray, List.set_cons_zero, List.set_cons_succ, i64_w, i32_w]
                          rfl
                        exact norm_ (by first | (simp only [putAll, Act.put, List.setIfInBounds_toArray, List.set_cons_zero, List.set_cons_succ]; done) | (simp only [putAll, Act.put, List.setIfInBounds_toArray, List.set_cons_zero, List.set_cons_succ]; rfl)) (hJ1_4_5 (gb137, gb138) _ ⟨hHeld, (by (with_reducible repeat (first | refine blk_drewN ?_ _ | refine blk_drew ?_ | refine blk_alloc ?_ _)); exact BK132.out), (by (with_reducible repeat (first | refine blk_drewN ?_ _ | refine blk_drew ?_ | refine blk_alloc ?_ _)); exact BK137.out), (by (with_reducible repeat (first | refine blk_drewN ?_ _ | refine blk_drew ?_ | refine blk_alloc ?_ _)); exact BK138.out), GW137.out, GE137.out, NB132_137.out, NB137_132.out, NB138_137.out, NB137_138.out, GW138.out, GE138.out, NB132_138.out, NB138_132.out, (by repeat (first | (with_reducible first | exact HB.out | apply below_alloc | apply pw_below_drewN | apply below_drew1 | refine below_set ?_ GE132.out | refine below_set ?_ GE138.out | refine below_set ?_ GE137.out) | exact HB.out))⟩)
                  · skip
                    rintro gb137 w13 ⟨hS_, h0_, h1_, h2_, h3_, h4_, h5_, h6_⟩
                    have n0_ : Aside0 (w13.heap[gb132]? = some (.cells #[.int .u64 a0_0, .int .u64 a0_1] 25 (0, 0))) := ⟨h0_⟩
                    have n1_ : Aside0 (w13.heap[gb137]? = some (.cells #[.int .u64 0, .int .u64 0] 25 (0, 0))) := ⟨h1_⟩
                    have n2_ : Aside0 (w.heap.size ≤ gb137) := ⟨h2_⟩
                    have n3_ : Aside0 (w.heap.size ≤ gb137) := ⟨h3_⟩
                    have n4_ : Aside0 (gb132 ≠ gb137) := ⟨h4_⟩
                    have n5_ : Aside0 (gb137 ≠ gb132) := ⟨h5_⟩
                    have n6_ : Aside0 (Below w.heap.size w w13) := ⟨h6_⟩
                    clear BK132
                    clear HB
                    clear h0_ h1_ h2_ h3_ h4_ h5_ h6_
                    have BK132 := n0_
                    have BK137 := n1_
                    have GW137 := n2_
                    have GE137 := n3_
                    have NB132_137 := n4_
                    have NB137_132 := n5_
                    have HB := n6_
                    clear n0_ n1_ n2_ n3_ n4_ n5_ n6_
                    have hHeld : w13.cell? ⟨gb132, 0, none⟩ = some (.int .u64 a0_0) ∧ w13.cell? ⟨gb132, 1, none⟩ = some (.int .u64 a0_1) := hS_
                    refine norm_ (a' := ?_) ?_ ?_
                    rotate_left
                    · simp only [putAll, Act.put, List.setIfInBounds_toArray, List.set_cons_zero, List.set_cons_succ]
                      rfl
                    refine two_ (i := 3) (j := 5) (Ni := some 8) (Nj := some 4) #[true, true, true, true, true, false, false, false] #[true, true, true, false, true, true, false, false] rfl rfl rfl rfl (two_of HT_.out (by kernel_rfl)) (by decide) (by decide) (fun K hK => ?_) (fun K hK => ?_)
                    · skip
                      refine goes_ Try.func6 (by kernel_rfl) rfl #[.agg #[.int .u64 a0_0, .int .u64 a0_1]] (by rfl) rfl rfl (by (try simp only [List.map_toArray, List.map_cons, List.map_nil]); first | done | rfl | (simp only [List.length_drop, List.length_take]; rfl)) ?_
                      with_reducible refine (impl_Parent.calls a0_0 a0_1 t135 t136 _ A3.out).mono ?_
                      rintro e w14 ⟨rfl, hb⟩
                      refine ⟨_, rfl, ?_⟩
                      have n0_ := Aside0.mk (blk_below (g := gb132) (o := .cells #[.int .u64 a0_0, .int .u64 a0_1] 25 (0, 0)) (by (with_reducible repeat (first | refine blk_drewN ?_ _ | refine blk_drew ?_ | refine blk_alloc ?_ _)); exact BK132.out) hb)
                      have n1_ := Aside0.mk (blk_below (g := gb137) (o := .cells #[.int .u64 0, .int .u64 0] 25 (0, 0)) (by (with_reducible repeat (first | refine blk_drewN ?_ _ | refine blk_drew ?_ | refine blk_alloc ?_ _)); exact BK137.out) hb)
                      have n2_ := Aside0.mk (below_step (by repeat (first | (with_reducible first | exact HB.out | apply below_alloc | apply pw_below_drewN | apply below_drew1 | refine below_set ?_ GE132.out | refine below_set ?_ GE137.out) | exact HB.out)) hb)
                      clear BK132
                      clear BK137
                      clear HB
                      have BK132 := n0_
                      have BK137 := n1_
                      have HB := n2_
                      clear n0_ n1_ n2_
                      (try clear hb)
                      (try clear hb2)
                      (try clear hk)
                      (try clear hi)
                      refine hK.out _ _ ⟨(blk_cell BK132.out 0).trans rfl, (blk_cell BK132.out 1).trans rfl⟩ (fun hHeld => ?_)
                      clear hK K
                      refine norm_ (a' := ?_) ?_ ?_
                      rotate_left
                      · show Act.put _ (some 8) _ = _
                        simp only [Act.put, List.setIfInBounds_toArray, List.set_cons_zero, List.set_cons_succ, i64_w, i32_w]
                        rfl
                      exact norm_ (by first | (simp only [putAll, Act.put, List.setIfInBounds_toArray, List.set_cons_zero, List.set_cons_succ]; done) | (simp only [putAll, Act.put, List.setIfInBounds_toArray, List.set_cons_zero, List.set_cons_succ]; rfl)) (hJ1_3_4 (gb137) _ ⟨hHeld, (by (with_reducible repeat (first | refine blk_drewN ?_ _ | refine blk_drew ?_ | refine blk_alloc ?_ _)); exact BK132.out), (by (with_reducible repeat (first | refine blk_drewN ?_ _ | refine blk_drew ?_ | refine blk_alloc ?_ _)); exact BK137.out), GW137.out, GE137.out, NB132_137.out, NB137_132.out, (by repeat (first | (with_reducible first | exact HB.out | apply below_alloc | apply pw_below_drewN | apply below_drew1 | refine below_set ?_ GE132.out | refine below_set ?_ GE137.out) | exact HB.out))⟩)
                    · skip
                      refine box_step ?hg (N := 4) ?hd (cs := #[.int .u64 0, .int .u64 0]) (t := 25) ?hr ?_; (case hd => rfl); (case hg => rfl); (case hr => first | (go_simp; done) | (go_simp; rfl))
                      intro gb138 hg w14 hbox hb
                      have n0_ := Aside0.mk (blk_below (g := gb132) (o := .cells #[.int .u64 a0_0, .int .u64 a0_1] 25 (0, 0)) (by (with_reducible repeat (first | refine blk_drewN ?_ _ | refine blk_drew ?_ | refine blk_alloc ?_ _)); exact BK132.out) hb)
                      have n1_ := Aside0.mk (blk_below (g := gb137) (o := .cells #[.int .u64 0, .int .u64 0] 25 (0, 0)) (by (with_reducible repeat (first | refine blk_drewN ?_ _ | refine blk_drew ?_ | refine blk_alloc ?_ _)); exact BK137.out) hb)
                      have n2_ := Aside0.mk (below_step (by repeat (first | (with_reducible first | exact HB.out | apply below_alloc | apply pw_below_drewN | apply below_drew1 | refine below_set ?_ GE132.out | refine below_set ?_ GE137.out) | exact HB.out)) hb)
                      have n3_ := Aside0.mk (hbox)
                      have n4_ := Aside0.mk ((by rw [hg]; exact (below_size (by repeat (first | (with_reducible first | exact HB.out | apply below_alloc | apply pw_below_drewN | apply below_drew1 | refine below_set ?_ GE132.out | refine below_set ?_ GE137.out) | exact HB.out))) : w.heap.size ≤ gb138))
                      have n5_ := Aside0.mk ((by rw [hg]; exact (below_size (by repeat (first | (with_reducible first | exact HB.out | apply below_alloc | apply pw_below_drewN | apply below_drew1 | refine below_set ?_ GE132.out | refine below_set ?_ GE137.out) | exact HB.out))) : w.heap.size ≤ gb138))
                      have n6_ := Aside0.mk ((by rw [hg]; exact Nat.ne_of_lt (blk_lt (g := gb132) (o := .cells #[.int .u64 a0_0, .int .u64 a0_1] 25 (0, 0)) (by (with_reducible repeat (first | refine blk_drewN ?_ _ | refine blk_drew ?_ | refine blk_alloc ?_ _)); exact BK132.out)) : gb132 ≠ gb138))
                      have n7_ := Aside0.mk ((by rw [hg]; exact Nat.ne_of_gt (blk_lt (g := gb132) (o := .cells #[.int .u64 a0_0, .int .u64 a0_1] 25 (0, 0)) (by (with_reducible repeat (first | refine blk_drewN ?_ _ | refine blk_drew ?_ | refine blk_alloc ?_ _)); exact BK132.out)) : gb138 ≠ gb132))
                      have n8_ := Aside0.mk ((by rw [hg]; exact Nat.ne_of_lt (blk_lt (g := gb137) (o := .cells #[.int .u64 0, .int .u64 0] 25 (0, 0)) (by (with_reducible repeat (first | refine blk_drewN ?_ _ | refine blk_drew ?_ | refine blk_alloc ?_ _)); exact BK137.out)) : gb137 ≠ gb138))
                      have n9_ := Aside0.mk ((by rw [hg]; exact Nat.ne_of_gt (blk_lt (g := gb137) (o := .cells #[.int .u64 0, .int .u64 0] 25 (0, 0)) (by (with_reducible repeat (first | refine blk_drewN ?_ _ | refine blk_drew ?_ | refine blk_alloc ?_ _)); exact BK137.out)) : gb138 ≠ gb137))
                      clear BK132
                      clear BK137
                      clear HB
                      have BK132 := n0_
                      have BK137 := n1_
                      have HB := n2_
                      have BK138 := n3_
                      have GW138 := n4_
                      have GE138 := n5_
                      have NB132_138 := n6_
                      have NB138_132 := n7_
                      have NB137_138 := n8_
                      have NB138_137 := n9_
                      clear n0_ n1_ n2_ n3_ n4_ n5_ n6_ n7_ n8_ n9_
                      clear hb hbox hg
                      refine hK.out _ _ ⟨(blk_cell BK132.out 0).trans rfl, (blk_cell BK132.out 1).trans rfl⟩ (fun hHeld => ?_)
                      clear hK K
                      refine norm_ (a' := ?_) ?_ ?_
                      rotate_left
                      · show Act.put _ (some 4) _ = _
                        simp only [Act.put, List.setIfInBounds_toArray, List.set_cons_zero, List.set_cons_succ, i64_w, i32_w]
                        rfl
                      exact norm_ (by first | (simp only [putAll, Act.put, List.setIfInBounds_toArray, List.set_cons_zero, List.set_cons_succ]; done) | (simp only [putAll, Act.put, List.setIfInBounds_toArray, List.set_cons_zero, List.set_cons_succ]; rfl)) (hJ1_4_5 (gb137, gb138) _ ⟨hHeld, (by (with_reducible repeat (first | refine blk_drewN ?_ _ | refine blk_drew ?_ | refine blk_alloc ?_ _)); exact BK132.out), (by (with_reducible repeat (first | refine blk_drewN ?_ _ | refine blk_drew ?_ | refine blk_alloc ?_ _)); exact BK137.out), (by (with_reducible repeat (first | refine blk_drewN ?_ _ | refine blk_drew ?_ | refine blk_alloc ?_ _)); exact BK138.out), GW137.out, GE137.out, NB132_137.out, NB137_132.out, NB138_137.out, NB137_138.out, GW138.out, GE138.out, NB132_138.out, NB138_132.out, (by repeat (first | (with_reducible first | exact HB.out | apply below_alloc | apply pw_below_drewN | apply below_drew1 | refine below_set ?_ GE132.out | refine below_set ?_ GE137.out | refine below_set ?_ GE138.out) | exact HB.out))⟩)
                · skip
                  rintro _ w13 ⟨hS_, h0_, h1_⟩
                  have n0_ : Aside0 (w13.heap[gb132]? = some (.cells #[.int .u64 a0_0, .int .u64 a0_1] 25 (0, 0))) := ⟨h0_⟩
                  have n1_ : Aside0 (Below w.heap.size w w13) := ⟨h1_⟩
                  clear BK132
                  clear HB
                  clear h0_ h1_
                  have BK132 := n0_
                  have HB := n1_
                  clear n0_ n1_
                  have hHeld : w13.cell? ⟨gb132, 0, none⟩ = some (.int .u64 a0_0) ∧ w13.cell? ⟨gb132, 1, none⟩ = some (.int .u64 a0_1) := hS_
                  refine norm_ (a' := ?_) ?_ ?_
                  rotate_left
                  · simp only [putAll, Act.put, List.setIfInBounds_toArray, List.set_cons_zero, List.set_cons_succ]
                    rfl
                  refine two_ (i := 4) (j := 5) (Ni := some 3) (Nj := some 4) #[true, true, true, true, true, false, false, false] #[true, true, true, true, false, true, false, false] rfl rfl rfl rfl (two_of HT_.out (by kernel_rfl)) (by decide) (by decide) (fun K hK => ?_) (fun K hK => ?_)
                  · skip
                    refine box_step ?hg (N := 3) ?hd (cs := #[.int .u64 0, .int .u64 0]) (t := 25) ?hr ?_; (case hd => rfl); (case hg => rfl); (case hr => first | (go_simp; done) | (go_simp; rfl))
                    intro gb137 hg w14 hbox hb
                    have n0_ := Aside0.mk (blk_below (g := gb132) (o := .cells #[.int .u64 a0_0, .int .u64 a0_1] 25 (0, 0)) (by (with_reducible repeat (first | refine blk_drewN ?_ _ | refine blk_drew ?_ | refine blk_alloc ?_ _)); exact BK132.out) hb)
                    have n1_ := Aside0.mk (below_step (by repeat (first | (with_reducible first | exact HB.out | apply below_alloc | apply pw_below_drewN | apply below_drew1 | refine below_set ?_ GE132.out) | exact HB.out)) hb)
                    have n2_ := Aside0.mk (hbox)
                    have n3_ := Aside0.mk ((by rw [hg]; exact (below_size (by repeat (first | (with_reducible first | exact HB.out | apply below_alloc | apply pw_below_drewN | apply below_drew1 | refine below_set ?_ GE132.out) | exact HB.out))) : w.heap.size ≤ gb137))
                    have n4_ := Aside0.mk ((by rw [hg]; exact (below_size (by repeat (first | (with_reducible first | exact HB.out | apply below_alloc | apply pw_below_drewN | apply below_drew1 | refine below_set ?_ GE132.out) | exact HB.out))) : w.heap.size ≤ gb137))
                    have n5_ := Aside0.mk ((by rw [hg]; exact Nat.ne_of_lt (blk_lt (g := gb132) (o := .cells #[.int .u64 a0_0, .int .u64 a0_1] 25 (0, 0)) (by (with_reducible repeat (first | refine blk_drewN ?_ _ | refine blk_drew ?_ | refine blk_alloc ?_ _)); exact BK132.out)) : gb132 ≠ gb137))
                    have n6_ := Aside0.mk ((by rw [hg]; exact Nat.ne_of_gt (blk_lt (g := gb132) (o := .cells #[.int .u64 a0_0, .int .u64 a0_1] 25 (0, 0)) (by (with_reducible repeat (first | refine blk_drewN ?_ _ | refine blk_drew ?_ | refine blk_alloc ?_ _)); exact BK132.out)) : gb137 ≠ gb132))
                    clear BK132
                    clear HB
                    have BK132 := n0_
                    have HB := n1_
                    have BK137 := n2_
                    have GW137 := n3_
                    have GE137 := n4_
                    have NB132_137 := n5_
                    have NB137_132 := n6_
                    clear n0_ n1_ n2_ n3_ n4_ n5_ n6_
                    clear hb hbox hg
                    refine hK.out _ _ ⟨(blk_cell BK132.out 0).trans rfl, (blk_cell BK132.out 1).trans rfl⟩ (fun hHeld => ?_)
                    clear hK K
                    refine norm_ (a' := ?_) ?_ ?_
                    rotate_left
                    · show Act.put _ (some 3) _ = _
                      simp only [Act.put, List.setIfInBounds_toArray, List.set_cons_zero, List.set_cons_succ, i64_w, i32_w]
                      rfl
                    exact norm_ (by first | (simp only [putAll, Act.put, List.setIfInBounds_toArray, List.set_cons_zero, List.set_cons_succ]; done) | (simp only [putAll, Act.put, List.setIfInBounds_toArray, List.set_cons_zero, List.set_cons_succ]; rfl)) (hJ1_3_4 (gb137) _ ⟨hHeld, (by (with_reducible repeat (first | refine blk_drewN ?_ _ | refine blk_drew ?_ | refine blk_alloc ?_ _)); exact BK132.out), (by (with_reducible repeat (first | refine blk_drewN ?_ _ | refine blk_drew ?_ | refine blk_alloc ?_ _)); exact BK137.out), GW137.out, GE137.out, NB132_137.out, NB137_132.out, (by repeat (first | (with_reducible first | exact HB.out | apply below_alloc | apply pw_below_drewN | apply below_drew1 | refine below_set ?_ GE132.out | refine below_set ?_ GE137.out) | exact HB.out))⟩)
                  · skip
                    refine box_step ?hg (N := 4) ?hd (cs := #[.int .u64 0, .int .u64 0]) (t := 25) ?hr ?_; (case hd => rfl); (case hg => rfl); (case hr => first | (go_simp; done) | (go_simp; rfl))
                    intro gb138 hg w14 hbox hb
                    have n0_ := Aside0.mk (blk_below (g := gb132) (o := .cells #[.int .u64 a0_0, .int .u64 a0_1] 25 (0, 0)) (by (with_reducible repeat (first | refine blk_drewN ?_ _ | refine blk_drew ?_ | refine blk_alloc ?_ _)); exact BK132.out) hb)
                    have n1_ := Aside0.mk (below_step (by repeat (first | (with_reducible first | exact HB.out | apply below_alloc | apply pw_below_drewN | apply below_drew1 | refine below_set ?_ GE132.out) | exact HB.out)) hb)
                    have n2_ := Aside0.mk (hbox)
                    have n3_ := Aside0.mk ((by rw [hg]; exact (below_size (by repeat (first | (with_reducible first | exact HB.out | apply below_alloc | apply pw_below_drewN | apply below_drew1 | refine below_set ?_ GE132.out) | exact HB.out))) : w.heap.size ≤ gb138))
                    have n4_ := Aside0.mk ((by rw [hg]; exact (below_size (by repeat (first | (with_reducible first | exact HB.out | apply below_alloc | apply pw_below_drewN | apply below_drew1 | refine below_set ?_ GE132.out) | exact HB.out))) : w.heap.size ≤ gb138))
                    have n5_ := Aside0.mk ((by rw [hg]; exact Nat.ne_of_lt (blk_lt (g := gb132) (o := .cells #[.int .u64 a0_0, .int .u64 a0_1] 25 (0, 0)) (by (with_reducible repeat (first | refine blk_drewN ?_ _ | refine blk_drew ?_ | refine blk_alloc ?_ _)); exact BK132.out)) : gb132 ≠ gb138))
                    have n6_ := Aside0.mk ((by rw [hg]; exact Nat.ne_of_gt (blk_lt (g := gb132) (o := .cells #[.int .u64 a0_0, .int .u64 a0_1] 25 (0, 0)) (by (with_reducible repeat (first | refine blk_drewN ?_ _ | refine blk_drew ?_ | refine blk_alloc ?_ _)); exact BK132.out)) : gb138 ≠ gb132))
                    clear BK132
                    clear HB
                    have BK132 := n0_
                    have HB := n1_
                    have BK138 := n2_
                    have GW138 := n3_
                    have GE138 := n4_
                    have NB132_138 := n5_
                    have NB138_132 := n6_
                    clear n0_ n1_ n2_ n3_ n4_ n5_ n6_
                    clear hb hbox hg
                    refine hK.out _ _ ⟨(blk_cell BK132.out 0).trans rfl, (blk_cell BK132.out 1).trans rfl⟩ (fun hHeld => ?_)
                    clear hK K
                    refine norm_ (a' := ?_) ?_ ?_
                    rotate_left
                    · show Act.put _ (some 4) _ = _
                      simp only [Act.put, List.setIfInBounds_toArray, List.set_cons_zero, List.set_cons_succ, i64_w, i32_w]
                      rfl
                    exact norm_ (by first | (simp only [putAll, Act.put, List.setIfInBounds_toArray, List.set_cons_zero, List.set_cons_succ]; done) | (simp only [putAll, Act.put, List.setIfInBounds_toArray, List.set_cons_zero, List.set_cons_succ]; rfl)) (hJ1_3_5 (gb138) _ ⟨hHeld, (by (with_reducible repeat (first | refine blk_drewN ?_ _ | refine blk_drew ?_ | refine blk_alloc ?_ _)); exact BK132.out), (by (with_reducible repeat (first | refine blk_drewN ?_ _ | refine blk_drew ?_ | refine blk_alloc ?_ _)); exact BK138.out), GW138.out, GE138.out, NB132_138.out, NB138_132.out, (by repeat (first | (with_reducible first | exact HB.out | apply below_alloc | apply pw_below_drewN | apply below_drew1 | refine below_set ?_ GE132.out | refine below_set ?_ GE138.out) | exact HB.out))⟩)
              · skip
                rintro ⟨gb137, gb138⟩ w14 ⟨hS_, h0_, h1_, h2_, h3_, h4_, h5_, h6_, h7_, h8_, h9_, h10_, h11_, h12_, h13_⟩
                have n0_ : Aside0 (w14.heap[gb132]? = some (.cells #[.int .u64 a0_0, .int .u64 a0_1] 25 (0, 0))) := ⟨h0_⟩
                have n1_ : Aside0 (w14.heap[gb137]? = some (.cells #[.int .u64 0, .int .u64 0] 25 (0, 0))) := ⟨h1_⟩
                have n2_ : Aside0 (w14.heap[gb138]? = some (.cells #[.int .u64 0, .int .u64 0] 25 (0, 0))) := ⟨h2_⟩
                have n3_ : Aside0 (w.heap.size ≤ gb137) := ⟨h3_⟩
                have n4_ : Aside0 (w.heap.size ≤ gb137) := ⟨h4_⟩
                have n5_ : Aside0 (gb132 ≠ gb137) := ⟨h5_⟩
                have n6_ : Aside0 (gb137 ≠ gb132) := ⟨h6_⟩
                have n7_ : Aside0 (gb138 ≠ gb137) := ⟨h7_⟩
                have n8_ : Aside0 (gb137 ≠ gb138) := ⟨h8_⟩
                have n9_ : Aside0 (w.heap.size ≤ gb138) := ⟨h9_⟩
                have n10_ : Aside0 (w.heap.size ≤ gb138) := ⟨h10_⟩
                have n11_ : Aside0 (gb132 ≠ gb138) := ⟨h11_⟩
                have n12_ : Aside0 (gb138 ≠ gb132) := ⟨h12_⟩
                have n13_ : Aside0 (Below w.heap.size w w14) := ⟨h13_⟩
                clear BK132
                clear HB
                clear h0_ h1_ h2_ h3_ h4_ h5_ h6_ h7_ h8_ h9_ h10_ h11_ h12_ h13_
                have BK132 := n0_
                have BK137 := n1_
                have BK138 := n2_
                have GW137 := n3_
                have GE137 := n4_
                have NB132_137 := n5_
                have NB137_132 := n6_
                have NB138_137 := n7_
                have NB137_138 := n8_
                have GW138 := n9_
                have GE138 := n10_
                have NB132_138 := n11_
                have NB138_132 := n12_
                have HB := n13_
                clear n0_ n1_ n2_ n3_ n4_ n5_ n6_ n7_ n8_ n9_ n10_ n11_ n12_ n13_
                have hHeld : w14.cell? ⟨gb132, 0, none⟩ = some (.int .u64 a0_0) ∧ w14.cell? ⟨gb132, 1, none⟩ = some (.int .u64 a0_1) := hS_
                refine norm_ (a' := ?_) ?_ ?_
                rotate_left
                · simp only [putAll, Act.put, List.setIfInBounds_toArray, List.set_cons_zero, List.set_cons_succ]
                  rfl
                refine one_ (i := 3) (N := some 8) #[true, true, true, true, true, true, false, false] rfl rfl (one_of HT_.out (by kernel_rfl)) (by decide) (fun K hK => ?_)
                refine goes_ Try.func6 (by kernel_rfl) rfl #[.agg #[.int .u64 a0_0, .int .u64 a0_1]] (by rfl) rfl rfl (by (try simp only [List.map_toArray, List.map_cons, List.map_nil]); first | done | rfl | (simp only [List.length_drop, List.length_take]; rfl)) ?_
                with_reducible refine (impl_Parent.calls a0_0 a0_1 t135 t136 _ A3.out).mono ?_
                rintro e w15 ⟨rfl, hb⟩
                refine ⟨_, rfl, ?_⟩
                have n0_ := Aside0.mk (blk_below (g := gb132) (o := .cells #[.int .u64 a0_0, .int .u64 a0_1] 25 (0, 0)) (by (with_reducible repeat (first | refine blk_drewN ?_ _ | refine blk_drew ?_ | refine blk_alloc ?_ _)); exact BK132.out) hb)
                have n1_ := Aside0.mk (blk_below (g := gb137) (o := .cells #[.int .u64 0, .int .u64 0] 25 (0, 0)) (by (with_reducible repeat (first | refine blk_drewN ?_ _ | refine blk_drew ?_ | refine blk_alloc ?_ _)); exact BK137.out) hb)
                have n2_ := Aside0.mk (blk_below (g := gb138) (o := .cells #[.int .u64 0, .int .u64 0] 25 (0, 0)) (by (with_reducible repeat (first | refine blk_drewN ?_ _ | refine blk_drew ?_ | refine blk_alloc ?_ _)); exact BK138.out) hb)
                have n3_ := Aside0.mk (below_step (by repeat (first | (with_reducible first | exact HB.out | apply below_alloc | apply pw_below_drewN | apply below_drew1 | refine below_set ?_ GE132.out | refine below_set ?_ GE137.out | refine below_set ?_ GE138.out) | exact HB.out)) hb)
                clear BK132
                clear BK137
                clear BK138
                clear HB
                have BK132 := n0_
                have BK137 := n1_
                have BK138 := n2_
                have HB := n3_
                clear n0_ n1_ n2_ n3_
                (try clear hb)
                (try clear hb2)
                (try clear hk)
                (try clear hi)
                refine hK.out _ _ ⟨(blk_cell BK132.out 0).trans rfl, (blk_cell BK132.out 1).trans rfl⟩ (fun hHeld => ?_)
                clear hK K
                refine norm_ (a' := ?_) ?_ ?_
                rotate_left
                · show Act.put _ (some 8) _ = _
                  simp only [Act.put, List.setIfInBounds_toArray, List.set_cons_zero, List.set_cons_succ, i64_w, i32_w]
                  rfl
                exact norm_ (by first | (simp only [putAll, Act.put, List.setIfInBounds_toArray, List.set_cons_zero, List.set_cons_succ]; done) | (simp only [putAll, Act.put, List.setIfInBounds_toArray, List.set_cons_zero, List.set_cons_succ]; rfl)) (hJ1_3_4_5 (gb137, gb138) _ ⟨hHeld, (by (with_reducible repeat (first | refine blk_drewN ?_ _ | refine blk_drew ?_ | refine blk_alloc ?_ _)); exact BK132.out), (by (with_reducible repeat (first | refine blk_drewN ?_ _ | refine blk_drew ?_ | refine blk_alloc ?_ _)); exact BK137.out), (by (with_reducible repeat (first | refine blk_drewN ?_ _ | refine blk_drew ?_ | refine blk_alloc ?_ _)); exact BK138.out), GW137.out, GE137.out, NB132_137.out, NB137_132.out, NB138_137.out, NB137_138.out, GW138.out, GE138.out, NB132_138.out, NB138_132.out, (by repeat (first | (with_reducible first | exact HB.out | apply below_alloc | apply pw_below_drewN | apply below_drew1 | refine below_set ?_ GE132.out | refine below_set ?_ GE137.out | refine below_set ?_ GE138.out) | exact HB.out))⟩)
            · skip
              rintro gb138 w14 ⟨hS_, h0_, h1_, h2_, h3_, h4_, h5_, h6_⟩
              have n0_ : Aside0 (w14.heap[gb132]? = some (.cells #[.int .u64 a0_0, .int .u64 a0_1] 25 (0, 0))) := ⟨h0_⟩
              have n1_ : Aside0 (w14.heap[gb138]? = some (.cells #[.int .u64 0, .int .u64 0] 25 (0, 0))) := ⟨h1_⟩
              have n2_ : Aside0 (w.heap.size ≤ gb138) := ⟨h2_⟩
              have n3_ : Aside0 (w.heap.size ≤ gb138) := ⟨h3_⟩
              have n4_ : Aside0 (gb132 ≠ gb138) := ⟨h4_⟩
              have n5_ : Aside0 (gb138 ≠ gb132) := ⟨h5_⟩
              have n6_ : Aside0 (Below w.heap.size w w14) := ⟨h6_⟩
              clear BK132
              clear HB
              clear h0_ h1_ h2_ h3_ h4_ h5_ h6_
              have BK132 := n0_
              have BK138 := n1_
              have GW138 := n2_
              have GE138 := n3_
              have NB132_138 := n4_
              have NB138_132 := n5_
              have HB := n6_
              clear n0_ n1_ n2_ n3_ n4_ n5_ n6_
              have hHeld : w14.cell? ⟨gb132, 0, none⟩ = some (.int .u64 a0_0) ∧ w14.cell? ⟨gb132, 1, none⟩ = some (.int .u64 a0_1) := hS_
              refine norm_ (a' := ?_) ?_ ?_
              rotate_left
              · simp only [putAll, Act.put, List.setIfInBounds_toArray, List.set_cons_zero, List.set_cons_succ]
                rfl
              refine one_ (i := 4) (N := some 3) #[true, true, true, true, true, true, false, false] rfl rfl (one_of HT_.out (by kernel_rfl)) (by decide) (fun K hK => ?_)
              refine box_step ?hg (N := 3) ?hd (cs := #[.int .u64 0, .int .u64 0]) (t := 25) ?hr ?_; (case hd => rfl); (case hg => rfl); (case hr => first | (go_simp; done) | (go_simp; rfl))
              intro gb137 hg w15 hbox hb
              have n0_ := Aside0.mk (blk_below (g := gb132) (o := .cells #[.int .u64 a0_0, .int .u64 a0_1] 25 (0, 0)) (by (with_reducible repeat (first | refine blk_drewN ?_ _ | refine blk_drew ?_ | refine blk_alloc ?_ _)); exact BK132.out) hb)
              have n1_ := Aside0.mk (blk_below (g := gb138) (o := .cells #[.int .u64 0, .int .u64 0] 25 (0, 0)) (by (with_reducible repeat (first | refine blk_drewN ?_ _ | refine blk_drew ?_ | refine blk_alloc ?_ _)); exact BK138.out) hb)
              have n2_ := Aside0.mk (below_step (by repeat (first | (with_reducible first | exact HB.out | apply below_alloc | apply pw_below_drewN | apply below_drew1 | refine below_set ?_ GE132.out | refine below_set ?_ GE138.out) | exact HB.out)) hb)
              have n3_ := Aside0.mk (hbox)
              have n4_ := Aside0.mk ((by rw [hg]; exact (below_size (by repeat (first | (with_reducible first | exact HB.out | apply below_alloc | apply pw_below_drewN | apply below_drew1 | refine below_set ?_ GE132.out | refine below_set ?_ GE138.out) | exact HB.out))) : w.heap.size ≤ gb137))
              have n5_ := Aside0.mk ((by rw [hg]; exact (below_size (by repeat (first | (with_reducible first | exact HB.out | apply below_alloc | apply pw_below_drewN | apply below_drew1 | refine below_set ?_ GE132.out | refine below_set ?_ GE138.out) | exact HB.out))) : w.heap.size ≤ gb137))
              have n6_ := Aside0.mk ((by rw [hg]; exact Nat.ne_of_lt (blk_lt (g := gb132) (o := .cells #[.int .u64 a0_0, .int .u64 a0_1] 25 (0, 0)) (by (with_reducible repeat (first | refine blk_drewN ?_ _ | refine blk_drew ?_ | refine blk_alloc ?_ _)); exact BK132.out)) : gb132 ≠ gb137))
              have n7_ := Aside0.mk ((by rw [hg]; exact Nat.ne_of_gt (blk_lt (g := gb132) (o := .cells #[.int .u64 a0_0, .int .u64 a0_1] 25 (0, 0)) (by (with_reducible repeat (first | refine blk_drewN ?_ _ | refine blk_drew ?_ | refine blk_alloc ?_ _)); exact BK132.out)) : gb137 ≠ gb132))
              have n8_ := Aside0.mk ((by rw [hg]; exact Nat.ne_of_lt (blk_lt (g := gb138) (o := .cells #[.int .u64 0, .int .u64 0] 25 (0, 0)) (by (with_reducible repeat (first | refine blk_drewN ?_ _ | refine blk_drew ?_ | refine blk_alloc ?_ _)); exact BK138.out)) : gb138 ≠ gb137))
              have n9_ := Aside0.mk ((by rw [hg]; exact Nat.ne_of_gt (blk_lt (g := gb138) (o := .cells #[.int .u64 0, .int .u64 0] 25 (0, 0)) (by (with_reducible repeat (first | refine blk_drewN ?_ _ | refine blk_drew ?_ | refine blk_alloc ?_ _)); exact BK138.out)) : gb137 ≠ gb138))
              clear BK132
              clear BK138
              clear HB
              have BK132 := n0_
              have BK138 := n1_
              have HB := n2_
              have BK137 := n3_
              have GW137 := n4_
              have GE137 := n5_
              have NB132_137 := n6_
              have NB137_132 := n7_
              have NB138_137 := n8_
              have NB137_138 := n9_
              clear n0_ n1_ n2_ n3_ n4_ n5_ n6_ n7_ n8_ n9_
              clear hb hbox hg
              refine hK.out _ _ ⟨(blk_cell BK132.out 0).trans rfl, (blk_cell BK132.out 1).trans rfl⟩ (fun hHeld => ?_)
              clear hK K
              refine norm_ (a' := ?_) ?_ ?_
              rotate_left
              · show Act.put _ (some 3) _ = _
                simp only [Act.put, List.setIfInBounds_toArray, List.set_cons_zero, List.set_cons_succ, i64_w, i32_w]
                rfl
              exact norm_ (by first | (simp only [putAll, Act.put, List.setIfInBounds_toArray, List.set_cons_zero, List.set_cons_succ]; done) | (simp only [putAll, Act.put, List.setIfInBounds_toArray, List.set_cons_zero, List.set_cons_succ]; rfl)) (hJ1_3_4_5 (gb137, gb138) _ ⟨hHeld, (by (with_reducible repeat (first | refine blk_drewN ?_ _ | refine blk_drew ?_ | refine blk_alloc ?_ _)); exact BK132.out), (by (with_reducible repeat (first | refine blk_drewN ?_ _ | refine blk_drew ?_ | refine blk_alloc ?_ _)); exact BK137.out), (by (with_reducible repeat (first | refine blk_drewN ?_ _ | refine blk_drew ?_ | refine blk_alloc ?_ _)); exact BK138.out), GW137.out, GE137.out, NB132_137.out, NB137_132.out, NB138_137.out, NB137_138.out, GW138.out, GE138.out, NB132_138.out, NB138_132.out, (by repeat (first | (with_reducible first | exact HB.out | apply below_alloc | apply pw_below_drewN | apply below_drew1 | refine below_set ?_ GE132.out | refine below_set ?_ GE138.out | refine below_set ?_ GE137.out) | exact HB.out))⟩)
          · skip
            rintro gb137 w14 ⟨hS_, h0_, h1_, h2_, h3_, h4_, h5_, h6_⟩
            have n0_ : Aside0 (w14.heap[gb132]? = some (.cells #[.int .u64 a0_0, .int .u64 a0_1] 25 (0, 0))) := ⟨h0_⟩
            have n1_ : Aside0 (w14.heap[gb137]? = some (.cells #[.int .u64 0, .int .u64 0] 25 (0, 0))) := ⟨h1_⟩
            have n2_ : Aside0 (w.heap.size ≤ gb137) := ⟨h2_⟩
            have n3_ : Aside0 (w.heap.size ≤ gb137) := ⟨h3_⟩
            have n4_ : Aside0 (gb132 ≠ gb137) := ⟨h4_⟩
            have n5_ : Aside0 (gb137 ≠ gb132) := ⟨h5_⟩
            have n6_ : Aside0 (Below w.heap.size w w14) := ⟨h6_⟩
            clear BK132
            clear HB
            clear h0_ h1_ h2_ h3_ h4_ h5_ h6_
            have BK132 := n0_
            have BK137 := n1_
            have GW137 := n2_
            have GE137 := n3_
            have NB132_137 := n4_
            have NB137_132 := n5_
            have HB := n6_
            clear n0_ n1_ n2_ n3_ n4_ n5_ n6_
            have hHeld : w14.cell? ⟨gb132, 0, none⟩ = some (.int .u64 a0_0) ∧ w14.cell? ⟨gb132, 1, none⟩ = some (.int .u64 a0_1) := hS_
            refine norm_ (a' := ?_) ?_ ?_
            rotate_left
            · simp only [putAll, Act.put, List.setIfInBounds_toArray, List.set_cons_zero, List.set_cons_succ]
              rfl
            refine one_ (i := 5) (N := some 4) #[true, true, true, true, true, true, false, false] rfl rfl (one_of HT_.out (by kernel_rfl)) (by decide) (fun K hK => ?_)
            refine box_step ?hg (N := 4) ?hd (cs := #[.int .u64 0, .int .u64 0]) (t := 25) ?hr ?_; (case hd => rfl); (case hg => rfl); (case hr => first | (go_simp; done) | (go_simp; rfl))
            intro gb138 hg w15 hbox hb
            have n0_ := Aside0.mk (blk_below (g := gb132) (o := .cells #[.int .u64 a0_0, .int .u64 a0_1] 25 (0, 0)) (by (with_reducible repeat (first | refine blk_drewN ?_ _ | refine blk_drew ?_ | refine blk_alloc ?_ _)); exact BK132.out) hb)
            have n1_ := Aside0.mk (blk_below (g := gb137) (o := .cells #[.int .u64 0, .int .u64 0] 25 (0, 0)) (by (with_reducible repeat (first | refine blk_drewN ?_ _ | refine blk_drew ?_ | refine blk_alloc ?_ _)); exact BK137.out) hb)
            have n2_ := Aside0.mk (below_step (by repeat (first | (with_reducible first | exact HB.out | apply below_alloc | apply pw_below_drewN | apply below_drew1 | refine below_set ?_ GE132.out | refine below_set ?_ GE137.out) | exact HB.out)) hb)
            have n3_ := Aside0.mk (hbox)
            have n4_ := Aside0.mk ((by rw [hg]; exact (below_size (by repeat (first | (with_reducible first | exact HB.out | apply below_alloc | apply pw_below_drewN | apply below_drew1 | refine below_set ?_ GE132.out | refine below_set ?_ GE137.out) | exact HB.out))) : w.heap.size ≤ gb138))
            have n5_ := Aside0.mk ((by rw [hg]; exact (below_size (by repeat (first | (with_reducible first | exact HB.out | apply below_alloc | apply pw_below_drewN | apply below_drew1 | refine below_set ?_ GE132.out | refine below_set ?_ GE137.out) | exact HB.out))) : w.heap.size ≤ gb138))
            have n6_ := Aside0.mk ((by rw [hg]; exact Nat.ne_of_lt (blk_lt (g := gb132) (o := .cells #[.int .u64 a0_0, .int .u64 a0_1] 25 (0, 0)) (by (with_reducible repeat (first | refine blk_drewN ?_ _ | refine blk_drew ?_ | refine blk_alloc ?_ _)); exact BK132.out)) : gb132 ≠ gb138))
            have n7_ := Aside0.mk ((by rw [hg]; exact Nat.ne_of_gt (blk_lt (g := gb132) (o := .cells #[.int .u64 a0_0, .int .u64 a0_1] 25 (0, 0)) (by (with_reducible repeat (first | refine blk_drewN ?_ _ | refine blk_drew ?_ | refine blk_alloc ?_ _)); exact BK132.out)) : gb138 ≠ gb132))
            have n8_ := Aside0.mk ((by rw [hg]; exact Nat.ne_of_lt (blk_lt (g := gb137) (o := .cells #[.int .u64 0, .int .u64 0] 25 (0, 0)) (by (with_reducible repeat (first | refine blk_drewN ?_ _ | refine blk_drew ?_ | refine blk_alloc ?_ _)); exact BK137.out)) : gb137 ≠ gb138))
            have n9_ := Aside0.mk ((by rw [hg]; exact Nat.ne_of_gt (blk_lt (g := gb137) (o := .cells #[.int .u64 0, .int .u64 0] 25 (0, 0)) (by (with_reducible repeat (first | refine blk_drewN ?_ _ | refine blk_drew ?_ | refine blk_alloc ?_ _)); exact BK137.out)) : gb138 ≠ gb137))
            clear BK132
            clear BK137
            clear HB
            have BK132 := n0_
            have BK137 := n1_
            have HB := n2_
            have BK138 := n3_
            have GW138 := n4_
            have GE138 := n5_
            have NB132_138 := n6_
            have NB138_132 := n7_
            have NB137_138 := n8_
            have NB138_137 := n9_
            clear n0_ n1_ n2_ n3_ n4_ n5_ n6_ n7_ n8_ n9_
            clear hb hbox hg
            refine hK.out _ _ ⟨(blk_cell BK132.out 0).trans rfl, (blk_cell BK132.out 1).trans rfl⟩ (fun hHeld => ?_)
            clear hK K
            refine norm_ (a' := ?_) ?_ ?_
            rotate_left
            · show Act.put _ (some 4) _ = _
              simp only [Act.put, List.setIfInBounds_toArray, List.set_cons_zero, List.set_cons_succ, i64_w, i32_w]
              rfl
            exact norm_ (by first | (simp only [putAll, Act.put, List.setIfInBounds_toArray, List.set_cons_zero, List.set_cons_succ]; done) | (simp only [putAll, Act.put, List.setIfInBounds_toArray, List.set_cons_zero, List.set_cons_succ]; rfl)) (hJ1_3_4_5 (gb137, gb138) _ ⟨hHeld, (by (with_reducible repeat (first | refine blk_drewN ?_ _ | refine blk_drew ?_ | refine blk_alloc ?_ _)); exact BK132.out), (by (with_reducible repeat (first | refine blk_drewN ?_ _ | refine blk_drew ?_ | refine blk_alloc ?_ _)); exact BK137.out), (by (with_reducible repeat (first | refine blk_drewN ?_ _ | refine blk_drew ?_ | refine blk_alloc ?_ _)); exact BK138.out), GW137.out, GE137.out, NB132_137.out, NB137_132.out, NB138_137.out, NB137_138.out, GW138.out, GE138.out, NB132_138.out, NB138_132.out, (by repeat (first | (with_reducible first | exact HB.out | apply below_alloc | apply pw_below_drewN | apply below_drew1 | refine below_set ?_ GE132.out | refine below_set ?_ GE137.out | refine below_set ?_ GE138.out) | exact HB.out))⟩)
        rintro ⟨gb137, gb138⟩ w15 ⟨hS_, h0_, h1_, h2_, h3_, h4_, h5_, h6_, h7_, h8_, h9_, h10_, h11_, h12_, h13_⟩
        have n0_ : Aside0 (w15.heap[gb132]? = some (.cells #[.int .u64 a0_0, .int .u64 a0_1] 25 (0, 0))) := ⟨h0_⟩
        have n1_ : Aside0 (w15.heap[gb137]? = some (.cells #[.int .u64 0, .int .u64 0] 25 (0, 0))) := ⟨h1_⟩
        have n2_ : Aside0 (w15.heap[gb138]? = some (.cells #[.int .u64 0, .int .u64 0] 25 (0, 0))) := ⟨h2_⟩
        have n3_ : Aside0 (w.heap.size ≤ gb137) := ⟨h3_⟩
        have n4_ : Aside0 (w.heap.size ≤ gb137) := ⟨h4_⟩
        have n5_ : Aside0 (gb132 ≠ gb137) := ⟨h5_⟩
        have n6_ : Aside0 (gb137 ≠ gb132) := ⟨h6_⟩
        have n7_ : Aside0 (gb138 ≠ gb137) := ⟨h7_⟩
        have n8_ : Aside0 (gb137 ≠ gb138) := ⟨h8_⟩
        have n9_ : Aside0 (w.heap.size ≤ gb138) := ⟨h9_⟩
        have n10_ : Aside0 (w.heap.size ≤ gb138) := ⟨h10_⟩
        have n11_ : Aside0 (gb132 ≠ gb138) := ⟨h11_⟩
        have n12_ : Aside0 (gb138 ≠ gb132) := ⟨h12_⟩
        have n13_ : Aside0 (Below w.heap.size w w15) := ⟨h13_⟩
        clear BK132
        clear HB
        clear h0_ h1_ h2_ h3_ h4_ h5_ h6_ h7_ h8_ h9_ h10_ h11_ h12_ h13_
        have BK132 := n0_
        have BK137 := n1_
        have BK138 := n2_
        have GW137 := n3_
        have GE137 := n4_
        have NB132_137 := n5_
        have NB137_132 := n6_
        have NB138_137 := n7_
        have NB137_138 := n8_
        have GW138 := n9_
        have GE138 := n10_
        have NB132_138 := n11_
        have NB138_132 := n12_
        have HB := n13_
        clear n0_ n1_ n2_ n3_ n4_ n5_ n6_ n7_ n8_ n9_ n10_ n11_ n12_ n13_
        have hHeld : w15.cell? ⟨gb132, 0, none⟩ = some (.int .u64 a0_0) ∧ w15.cell? ⟨gb132, 1, none⟩ = some (.int .u64 a0_1) := hS_
        refine norm_ (a' := ?_) ?_ ?_
        rotate_left
        · simp only [putAll, Act.put, List.setIfInBounds_toArray, List.set_cons_zero, List.set_cons_succ]
          rfl
        refine one_ (i := 6) (N := none) #[true, true, true, true, true, true, true, false] rfl rfl (one_of HT_.out (by kernel_rfl)) (by decide) (fun K hK => ?_)
        have hs16 : w15.cell? ⟨gb137, 0, none⟩ = some (.int .u64 0) := (blk_cell BK137.out 0).trans rfl
        have hfs16 := blk_frozen BK137.out 0
        have hns16_0 := NB132_137.out
        have hns16_2 := NB138_137.out
        have hms16_0 := NB137_132.out
        have hms16_2 := NB137_138.out
        have hs17 : w15.cell? ⟨gb137, 1, none⟩ = some (.int .u64 0) := (blk_cell BK137.out 1).trans rfl
        have hfs17 := blk_frozen BK137.out 1
        have hns17_0 := NB132_137.out
        have hns17_2 := NB138_137.out
        have hms17_0 := NB137_132.out
        have hms17_2 := NB137_138.out
        refine skip_ (w1 := ?_) (by rfl) rfl ?_ ?_
        rotate_left
        · go_simp
          rfl
        refine hK.out _ _ ⟨((cell_far (p := ⟨gb137, _, none⟩) NB132_137.out _).trans (((cell_far (p := ⟨gb137, _, none⟩) NB132_137.out _).trans (hHeld.1)))), ((cell_far (p := ⟨gb137, _, none⟩) NB132_137.out _).trans (((cell_far (p := ⟨gb137, _, none⟩) NB132_137.out _).trans (hHeld.2))))⟩ (fun hHeld => ?_)
        clear hK K
        refine one_ (i := 7) (N := none) #[true, true, true, true, true, true, true, true] rfl rfl (one_of HT_.out (by kernel_rfl)) (by decide) (fun K hK => ?_)
        have hs18 : w15.cell? ⟨gb138, 0, none⟩ = some (.int .u64 0) := (blk_cell BK138.out 0).trans rfl
        have hfs18 := blk_frozen BK138.out 0
        have hns18_0 := NB132_138.out
        have hns18_1 := NB137_138.out
        have hms18_0 := NB138_132.out
        have hms18_1 := NB138_137.out
        have hs19 : w15.cell? ⟨gb138, 1, none⟩ = some (.int .u64 0) := (blk_cell BK138.out 1).trans rfl
        have hfs19 := blk_frozen BK138.out 1
        have hns19_0 := NB132_138.out
        have hns19_1 := NB137_138.out
        have hms19_0 := NB138_132.out
        have hms19_1 := NB138_137.out
        refine skip_ (w1 := ?_) (by rfl) rfl ?_ ?_
        rotate_left
        · go_simp
          rfl
        refine hK.out _ _ ⟨((cell_far (p := ⟨gb138, _, none⟩) NB132_138.out _).trans (((cell_far (p := ⟨gb138, _, none⟩) NB132_138.out _).trans (hHeld.1)))), ((cell_far (p := ⟨gb138, _, none⟩) NB132_138.out _).trans (((cell_far (p := ⟨gb138, _, none⟩) NB132_138.out _).trans (hHeld.2))))⟩ (fun hHeld => ?_)
        clear hK K
        refine done_ (done_of HT_.out (by kernel_rfl)) ?_
        try go_wp2
        have n0_ : Aside0 (((((w15.setCell ⟨gb137, 0, none⟩ (.int .u64 t133)).setCell ⟨gb137, 1, none⟩ (.int .u64 t134)).setCell ⟨gb138, 0, none⟩ (.int .u64 t135)).setCell ⟨gb138, 1, none⟩ (.int .u64 t136)).heap[gb132]? = some (.cells #[.int .u64 a0_0, .int .u64 a0_1] 25 (0, 0))) := ⟨by (with_reducible repeat (first | refine blk_drewN ?_ _ | refine blk_drew ?_ | refine blk_alloc ?_ _)); refine blk_far ?_ NB132_138.out _; (with_reducible repeat (first | refine blk_drewN ?_ _ | refine blk_drew ?_ | refine blk_alloc ?_ _)); refine blk_far ?_ NB132_138.out _; (with_reducible repeat (first | refine blk_drewN ?_ _ | refine blk_drew ?_ | refine blk_alloc ?_ _)); refine blk_far ?_ NB132_137.out _; (with_reducible repeat (first | refine blk_drewN ?_ _ | refine blk_drew ?_ | refine blk_alloc ?_ _)); refine blk_far ?_ NB132_137.out _; (with_reducible repeat (first | refine blk_drewN ?_ _ | refine blk_drew ?_ | refine blk_alloc ?_ _)); exact BK132.out⟩
        have n1_ : Aside0 (((((w15.setCell ⟨gb137, 0, none⟩ (.int .u64 t133)).setCell ⟨gb137, 1, none⟩ (.int .u64 t134)).setCell ⟨gb138, 0, none⟩ (.int .u64 t135)).setCell ⟨gb138, 1, none⟩ (.int .u64 t136)).heap[gb137]? = some (.cells #[.int .u64 t133, .int .u64 t134] 25 (0, 0))) := ⟨by (with_reducible repeat (first | refine blk_drewN ?_ _ | refine blk_drew ?_ | refine blk_alloc ?_ _)); refine blk_far ?_ NB137_138.out _; (with_reducible repeat (first | refine blk_drewN ?_ _ | refine blk_drew ?_ | refine blk_alloc ?_ _)); refine blk_far ?_ NB137_138.out _; (with_reducible repeat (first | refine blk_drewN ?_ _ | refine blk_drew ?_ | refine blk_alloc ?_ _)); refine blk_put (cs := #[.int .u64 t133, .int .u64 0]) ?_ 1 _ rfl; (with_reducible repeat (first | refine blk_drewN ?_ _ | refine blk_drew ?_ | refine blk_alloc ?_ _)); refine blk_put (cs := #[.int .u64 0, .int .u64 0]) ?_ 0 _ rfl; (with_reducible repeat (first | refine blk_drewN ?_ _ | refine blk_drew ?_ | refine blk_alloc ?_ _)); exact BK137.out⟩
        have n2_ : Aside0 (((((w15.setCell ⟨gb137, 0, none⟩ (.int .u64 t133)).setCell ⟨gb137, 1, none⟩ (.int .u64 t134)).setCell ⟨gb138, 0, none⟩ (.int .u64 t135)).setCell ⟨gb138, 1, none⟩ (.int .u64 t136)).heap[gb138]? = some (.cells #[.int .u64 t135, .int .u64 t136] 25 (0, 0))) := ⟨by (with_reducible repeat (first | refine blk_drewN ?_ _ | refine blk_drew ?_ | refine blk_alloc ?_ _)); refine blk_put (cs := #[.int .u64 t135, .int .u64 0]) ?_ 1 _ rfl; (with_reducible repeat (first | refine blk_drewN ?_ _ | refine blk_drew ?_ | refine blk_alloc ?_ _)); refine blk_put (cs := #[.int .u64 0, .int .u64 0]) ?_ 0 _ rfl; (with_reducible repeat (first | refine blk_drewN ?_ _ | refine blk_drew ?_ | refine blk_alloc ?_ _)); refine blk_far ?_ NB138_137.out _; (with_reducible repeat (first | refine blk_drewN ?_ _ | refine blk_drew ?_ | refine blk_alloc ?_ _)); refine blk_far ?_ NB138_137.out _; (with_reducible repeat (first | refine blk_drewN ?_ _ | refine blk_drew ?_ | refine blk_alloc ?_ _)); exact BK138.out⟩
        have n3_ : Aside0 (Below w.heap.size w ((((w15.setCell ⟨gb137, 0, none⟩ (.int .u64 t133)).setCell ⟨gb137, 1, none⟩ (.int .u64 t134)).setCell ⟨gb138, 0, none⟩ (.int .u64 t135)).setCell ⟨gb138, 1, none⟩ (.int .u64 t136))) := ⟨by repeat (first | (with_reducible first | exact HB.out | apply below_alloc | apply pw_below_drewN | apply below_drew1 | refine below_set ?_ GE132.out | refine below_set ?_ GE137.out | refine below_set ?_ GE138.out) | exact HB.out)⟩
        (try clear BK132)
        (try clear BK137)
        (try clear BK138)
        (try clear HB)
        generalize ((((w15.setCell ⟨gb137, 0, none⟩ (.int .u64 t133)).setCell ⟨gb137, 1, none⟩ (.int .u64 t134)).setCell ⟨gb138, 0, none⟩ (.int .u64 t135)).setCell ⟨gb138, 1, none⟩ (.int .u64 t136)) = w20 at n0_ n1_ n2_ n3_ ⊢
        have BK132 := n0_
        have BK137 := n1_
        have BK138 := n2_
        have HB := n3_
        clear n0_ n1_ n2_ n3_
        (try (rw [drewN_self w20]; generalize hq_ : World.drewN w20 _ = w20; have n0_ : Aside0 (w20.heap[gb132]? = some (.cells #[.int .u64 a0_0, .int .u64 a0_1] 25 (0, 0))) := ⟨by rw [← hq_]; exact (by (with_reducible repeat (first | refine blk_drewN ?_ _ | refine blk_drew ?_ | refine blk_alloc ?_ _)); exact BK132.out)⟩; have n1_ : Aside0 (w20.heap[gb137]? = some (.cells #[.int .u64 t133, .int .u64 t134] 25 (0, 0))) := ⟨by rw [← hq_]; exact (by (with_reducible repeat (first | refine blk_drewN ?_ _ | refine blk_drew ?_ | refine blk_alloc ?_ _)); exact BK137.out)⟩; have n2_ : Aside0 (w20.heap[gb138]? = some (.cells #[.int .u64 t135, .int .u64 t136] 25 (0, 0))) := ⟨by rw [← hq_]; exact (by (with_reducible repeat (first | refine blk_drewN ?_ _ | refine blk_drew ?_ | refine blk_alloc ?_ _)); exact BK138.out)⟩; have n3_ : Aside0 (Below w.heap.size w w20) := ⟨by rw [← hq_]; exact (by repeat (first | (with_reducible first | exact HB.out | apply below_alloc | apply pw_below_drewN | apply below_drew1 | refine below_set ?_ GE132.out | refine below_set ?_ GE137.out | refine below_set ?_ GE138.out) | exact HB.out))⟩; clear BK132 BK137 BK138 HB hq_; have BK132 := n0_; have BK137 := n1_; have BK138 := n2_; have HB := n3_; clear n0_ n1_ n2_ n3_))
        have n0_ := Aside0.mk (blk_drew BK132.out)
        have n1_ := Aside0.mk (blk_drew BK137.out)
        have n2_ := Aside0.mk (blk_drew BK138.out)
        have n3_ := Aside0.mk (below_drew1 HB.out)
        clear BK132
        clear BK137
        clear BK138
        clear HB
        have BK132 := n0_
        have BK137 := n1_
        have BK138 := n2_
        have HB := n3_
        clear n0_ n1_ n2_ n3_
        refine start_ (n := 32) (S := fun w' => w'.cell? ⟨gb137, 0, none⟩ = some (.int .u64 t133) ∧ w'.cell? ⟨gb137, 1, none⟩ = some (.int .u64 t134) ∧ w'.cell? ⟨gb132, 0, none⟩ = some (.int .u64 a0_0) ∧ w'.cell? ⟨gb132, 1, none⟩ = some (.int .u64 a0_1) ∧ w'.cell? ⟨gb138, 0, none⟩ = some (.int .u64 t135) ∧ w'.cell? ⟨gb138, 1, none⟩ = some (.int .u64 t136)) (ds := []) #[false, false, false, false, false, false, false, false, false, false, false, false, false, false, false, false, false, false, false, false, false, false, false, false, false, false, false, false, false, false, false, false] (by kernel_rfl) rfl rfl ⟨(blk_cell BK137.out 0).trans rfl, (blk_cell BK137.out 1).trans rfl, (blk_cell BK132.out 0).trans rfl, (blk_cell BK132.out 1).trans rfl, (blk_cell BK138.out 0).trans rfl, (blk_cell BK138.out 1).trans rfl⟩ (fun hHeld => ?_); refine with_tabW laws_FnFamily.tab2 laws_FnFamily.bits2 (fun HT_ HW_ => ?_)
        generalize w20.drew = w21 at BK132 BK137 BK138 HB hHeld ⊢
        refine pure_ (i := 1) (N := some 10) (v := ?_) (a' := ?_) #[false, true, false, false, false, false, false, false, false, false, false, false, false, false, false, false, false, false, false, false, false, false, false, false, false, false, false, false, false, false, false, false] rfl rfl (any_of HT_.out (by kernel_rfl)) (fun _ _ _ h => h) (Or.inl ⟨by rfl, ?_⟩) ?_ ?_
        rotate_left
        · intro w'
          go_simp
          with_reducible rfl
        rotate_left
        · simp only [Act.put, List.setIfInBounds_toArray, List.set_cons_zero, List.set_cons_succ, i64_w, i32_w]
          rfl
        refine pure_ (i := 3) (N := some 12) (v := ?_) (a' := ?_) #[false, true, false, true, false, false, false, false, false, false, false, false, false, false, false, false, false, false, false, false, false, false, false, false, false, false, false, false, false, false, false, false] rfl rfl (any_of HT_.out (by kernel_rfl)) (fun _ _ _ h => h) (Or.inl ⟨by rfl, ?_⟩) ?_ ?_
        rotate_left
        · intro w'
          go_simp
          with_reducible rfl
        rotate_left
        · simp only [Act.put, List.setIfInBounds_toArray, List.set_cons_zero, List.set_cons_succ, i64_w, i32_w]
          rfl
        refine take_ (i := 0) (N := some 9) (v := ?_) (a' := ?_) #[true, true, false, true, false, false, false, false, false, false, false, false, false, false, false, false, false, false, false, false, false, false, false, false, false, false, false, false, false, false, false, false] rfl rfl (take_ofW HT_.out HW_.out (by kernel_rfl)) (fun _ _ _ h => h) (Or.inl ⟨by rfl, ?_⟩) hHeld ?_ ?_
        rotate_left
        · rintro w' ⟨s0, s1, s2, s3, s4, s5⟩
          go_simp
          with_reducible rfl
        rotate_left
        · simp only [Act.put, List.setIfInBounds_toArray, List.set_cons_zero, List.set_cons_succ, i64_w, i32_w]
          rfl
        refine take_ (i := 2) (N := some 11) (v := ?_) (a' := ?_) #[true, true, true, true, false, false, false, false, false, false, false, false, false, false, false, false, false, false, false, false, false, false, false, false, false, false, false, false, false, false, false, false] rfl rfl (take_ofW HT_.out HW_.out (by kernel_rfl)) (fun _ _ _ h => h) (Or.inl ⟨by rfl, ?_⟩) hHeld ?_ ?_
        rotate_left
        · rintro w' ⟨s0, s1, s2, s3, s4, s5⟩
          go_simp
          with_reducible rfl
        rotate_left
        · simp only [Act.put, List.setIfInBounds_toArray, List.set_cons_zero, List.set_cons_succ, i64_w, i32_w]
          rfl
        refine take_ (i := 4) (N := some 13) (v := ?_) (a' := ?_) #[true, true, true, true, true, false, false, false, false, false, false, false, false, false, false, false, false, false, false, false, false, false, false, false, false, false, false, false, false, false, false, false] rfl rfl (take_ofW HT_.out HW_.out (by kernel_rfl)) (fun _ _ _ h => h) (Or.inl ⟨by rfl, ?_⟩) hHeld ?_ ?_
        rotate_left
        · rintro w' ⟨s0, s1, s2, s3, s4, s5⟩
          go_simp
          with_reducible rfl
        rotate_left
        · simp only [Act.put, List.setIfInBounds_toArray, List.set_cons_zero, List.set_cons_succ, i64_w, i32_w]
          rfl
        refine pure_ (i := 5) (N := some 14) (v := ?_) (a' := ?_) #[true, true, true, true, true, true, false, false, false, false, false, false, false, false, false, false, false, false, false, false, false, false, false, false, false, false, false, false, false, false, false, false] rfl rfl (any_of HT_.out (by kernel_rfl)) (fun _ _ _ h => h) (Or.inl ⟨by rfl, ?_⟩) ?_ ?_
        rotate_left
        · intro w'
          go_simp
          with_reducible rfl
        rotate_left
        · simp only [Act.put, List.setIfInBounds_toArray, List.set_cons_zero, List.set_cons_succ, i64_w, i32_w]
          rfl
        refine pure_ (i := 6) (N := some 15) (v := ?_) (a' := ?_) #[true, true, true, true, true, true, true, false, false, false, false, false, false, false, false, false, false, false, false, false, false, false, false, false, false, false, false, false, false, false, false, false] rfl rfl (any_of HT_.out (by kernel_rfl)) (fun _ _ _ h => h) (Or.inl ⟨by rfl, ?_⟩) ?_ ?_
        rotate_left
        · intro w'
          go_simp
          with_reducible rfl
        rotate_left
        · simp only [Act.put, List.setIfInBounds_toArray, List.set_cons_zero, List.set_cons_succ, i64_w, i32_w]
          rfl
        refine pure_ (i := 7) (N := some 16) (v := ?_) (a' := ?_) #[true, true, true, true, true, true, true, true, false, false, false, false, false, false, false, false, false, false, false, false, false, false, false, false, false, false, false, false, false, false, false, false] rfl rfl (any_of HT_.out (by kernel_rfl)) (fun _ _ _ h => h) (Or.inl ⟨by rfl, ?_⟩) ?_ ?_
        rotate_left
        · intro w'
          go_simp
          with_reducible rfl
        rotate_left
        · simp only [Act.put, List.setIfInBounds_toArray, List.set_cons_zero, List.set_cons_succ, i64_w, i32_w]
          rfl
        refine pure_ (i := 8) (N := some 17) (v := ?_) (a' := ?_) #[true, true, true, true, true, true, true, true, true, false, false, false, false, false, false, false, false, false, false, false, false, false, false, false, false, false, false, false, false, false, false, false] rfl rfl (any_of HT_.out (by kernel_rfl)) (fun _ _ _ h => h) (Or.inl ⟨by rfl, ?_⟩) ?_ ?_
        rotate_left
        · intro w'
          go_simp
          with_reducible rfl
        rotate_left
        · simp only [Act.put, List.setIfInBounds_toArray, List.set_cons_zero, List.set_cons_succ, i64_w, i32_w]
          rfl
        refine pure_ (i := 10) (N := some 19) (v := ?_) (a' := ?_) #[true, true, true, true, true, true, true, true, true, false, true, false, false, false, false, false, false, false, false, false, false, false, false, false, false, false, false, false, false, false, false, false] rfl rfl (any_of HT_.out (by kernel_rfl)) (fun _ _ _ h => h) (Or.inl ⟨by rfl, ?_⟩) ?_ ?_
        rotate_left
        · intro w'
          go_simp
          with_reducible rfl
        rotate_left
        · simp only [Act.put, List.setIfInBounds_toArray, List.set_cons_zero, List.set_cons_succ, i64_w, i32_w]
          rfl
        refine pure_ (i := 13) (N := some 22) (v := ?_) (a' := ?_) #[true, true, true, true, true, true, true, true, true, false, true, false, false, true, false, false, false, false, false, false, false, false, false, false, false, false, false, false, false, false, false, false] rfl rfl (any_of HT_.out (by kernel_rfl)) (fun _ _ _ h => h) (Or.inl ⟨by rfl, ?_⟩) ?_ ?_
        rotate_left
        · intro w'
          go_simp
          with_reducible rfl
        rotate_left
        · simp only [Act.put, List.setIfInBounds_toArray, List.set_cons_zero, List.set_cons_succ, i64_w, i32_w]
          rfl
        refine take_ (i := 9) (N := some 18) (v := ?_) (a' := ?_) #[true, true, true, true, true, true, true, true, true, true, true, false, false, true, false, false, false, false, false, false, false, false, false, false, false, false, false, false, false, false, false, false] rfl rfl (take_ofW HT_.out HW_.out (by kernel_rfl)) (fun _ _ _ h => h) (Or.inl ⟨by rfl, ?_⟩) hHeld ?_ ?_
        rotate_left
        · rintro w' ⟨s0, s1, s2, s3, s4, s5⟩
          go_simp
          with_reducible rfl
        rotate_left
        · simp only [Act.put, List.setIfInBounds_toArray, List.set_cons_zero, List.set_cons_succ, i64_w, i32_w]
          rfl
        refine take_ (i := 11) (N := some 20) (v := ?_) (a' := ?_) #[true, true, true, true, true, true, true, true, true, true, true, true, false, true, false, false, false, false, false, false, false, false, false, false, false, false, false, false, false, false, false, false] rfl rfl (take_ofW HT_.out HW_.out (by kernel_rfl)) (fun _ _ _ h => h) (Or.inl ⟨by rfl, ?_⟩) hHeld ?_ ?_
        rotate_left
        · rintro w' ⟨s0, s1, s2, s3, s4, s5⟩
          go_simp
          with_reducible rfl
        rotate_left
        · simp only [Act.put, List.setIfInBounds_toArray, List.set_cons_zero, List.set_cons_succ, i64_w, i32_w]
          rfl
        refine pure_ (i := 12) (N := some 21) (v := ?_) (a' := ?_) #[true, true, true, true, true, true, true, true, true, true, true, true, true, true, false, false, false, false, false, false, false, false, false, false, false, false, false, false, false, false, false, false] rfl rfl (any_of HT_.out (by kernel_rfl)) (fun _ _ _ h => h) (Or.inl ⟨by rfl, ?_⟩) ?_ ?_
        rotate_left
        · intro w'
          go_simp
          with_reducible rfl
        rotate_left
        · simp only [Act.put, List.setIfInBounds_toArray, List.set_cons_zero, List.set_cons_succ, i64_w, i32_w]
          rfl
        refine take_ (i := 14) (N := some 23) (v := ?_) (a' := ?_) #[true, true, true, true, true, true, true, true, true, true, true, true, true, true, true, false, false, false, false, false, false, false, false, false, false, false, false, false, false, false, false, false] rfl rfl (take_ofW HT_.out HW_.out (by kernel_rfl)) (fun _ _ _ h => h) (Or.inl ⟨by rfl, ?_⟩) hHeld ?_ ?_
        rotate_left
        · rintro w' ⟨s0, s1, s2, s3, s4, s5⟩
          go_simp
          with_reducible rfl
        rotate_left
        · simp only [Act.put, List.setIfInBounds_toArray, List.set_cons_zero, List.set_cons_succ, i64_w, i32_w]
          rfl
        refine pure_ (i := 15) (N := some 24) (v := ?_) (a' := ?_) #[true, true, true, true, true, true, true, true, true, true, true, true, true, true, true, true, false, false, false, false, false, false, false, false, false, false, false, false, false, false, false, false] rfl rfl (any_of HT_.out (by kernel_rfl)) (fun _ _ _ h => h) (Or.inl ⟨by rfl, ?_⟩) ?_ ?_
        rotate_left
        · intro w'
          go_simp
          with_reducible rfl
        rotate_left
        · simp only [Act.put, List.setIfInBounds_toArray, List.set_cons_zero, List.set_cons_succ, i64_w, i32_w]
          rfl
        refine pure_ (i := 16) (N := some 25) (v := ?_) (a' := ?_) #[true, true, true, true, true, true, true, true, true, true, true, true, true, true, true, true, true, false, false, false, false, false, false, false, false, false, false, false, false, false, false, false] rfl rfl (any_of HT_.out (by kernel_rfl)) (fun _ _ _ h => h) (Or.inl ⟨by rfl, ?_⟩) ?_ ?_
        rotate_left
        · intro w'
          go_simp
          with_reducible rfl
        rotate_left
        · simp only [Act.put, List.setIfInBounds_toArray, List.set_cons_zero, List.set_cons_succ, i64_w, i32_w]
          rfl
        refine pure_ (i := 17) (N := some 26) (v := ?_) (a' := ?_) #[true, true, true, true, true, true, true, true, true, true, true, true, true, true, true, true, true, true, false, false, false, false, false, false, false, false, false, false, false, false, false, false] rfl rfl (any_of HT_.out (by kernel_rfl)) (fun _ _ _ h => h) (Or.inl ⟨by rfl, ?_⟩) ?_ ?_
        rotate_left
        · intro w'
          go_simp
          with_reducible rfl
        rotate_left
        · simp only [Act.put, List.setIfInBounds_toArray, List.set_cons_zero, List.set_cons_succ, i64_w, i32_w]
          rfl
        refine pure_ (i := 18) (N := some 27) (v := ?_) (a' := ?_) #[true, true, true, true, true, true, true, true, true, true, true, true, true, true, true, true, true, true, true, false, false, false, false, false, false, false, false, false, false, false, false, false] rfl rfl (any_of HT_.out (by kernel_rfl)) (fun _ _ _ h => h) (Or.inl ⟨by rfl, ?_⟩) ?_ ?_
        rotate_left
        · intro w'
          go_simp
          with_reducible rfl
        rotate_left
        · simp only [Act.put, List.setIfInBounds_toArray, List.set_cons_zero, List.set_cons_succ, i64_w, i32_w]
          rfl
        refine pure_ (i := 19) (N := some 28) (v := ?_) (a' := ?_) #[true, true, true, true, true, true, true, true, true, true, true, true, true, true, true, true, true, true, true, true, false, false, false, false, false, false, false, false, false, false, false, false] rfl rfl (any_of HT_.out (by kernel_rfl)) (fun _ _ _ h => h) (Or.inl ⟨by rfl, ?_⟩) ?_ ?_
        rotate_left
        · intro w'
          go_simp
          with_reducible rfl
        rotate_left
        · simp only [Act.put, List.setIfInBounds_toArray, List.set_cons_zero, List.set_cons_succ, i64_w, i32_w]
          rfl
        refine take_ (i := 20) (N := some 29) (v := ?_) (a' := ?_) #[true, true, true, true, true, true, true, true, true, true, true, true, true, true, true, true, true, true, true, true, true, false, false, false, false, false, false, false, false, false, false, false] rfl rfl (take_ofW HT_.out HW_.out (by kernel_rfl)) (fun _ _ _ h => h) (Or.inl ⟨by rfl, ?_⟩) hHeld ?_ ?_
        rotate_left
        · rintro w' ⟨s0, s1, s2, s3, s4, s5⟩
          go_simp
          with_reducible rfl
        rotate_left
        · simp only [Act.put, List.setIfInBounds_toArray, List.set_cons_zero, List.set_cons_succ, i64_w, i32_w]
          rfl
        refine take_ (i := 22) (N := some 31) (v := ?_) (a' := ?_) #[true, true, true, true, true, true, true, true, true, true, true, true, true, true, true, true, true, true, true, true, true, false, true, false, false, false, false, false, false, false, false, false] rfl rfl (take_ofW HT_.out HW_.out (by kernel_rfl)) (fun _ _ _ h => h) (Or.inl ⟨by rfl, ?_⟩) hHeld ?_ ?_
        rotate_left
        · rintro w' ⟨s0, s1, s2, s3, s4, s5⟩
          go_simp
          with_reducible rfl
        rotate_left
        · simp only [Act.put, List.setIfInBounds_toArray, List.set_cons_zero, List.set_cons_succ, i64_w, i32_w]
          rfl
        refine one_ (i := 21) (N := some 30) #[true, true, true, true, true, true, true, true, true, true, true, true, true, true, true, true, true, true, true, true, true, true, true, false, false, false, false, false, false, false, false, false] rfl rfl (one_of HT_.out (by kernel_rfl)) (by decide) (fun K hK => ?_)
        refine goes_ Try.func6 (by kernel_rfl) rfl #[.agg #[.int .u64 t133, .int .u64 t134]] (by rfl) rfl rfl (by (try simp only [List.map_toArray, List.map_cons, List.map_nil]); first | done | rfl | (simp only [List.length_drop, List.length_take]; rfl)) ?_
        with_reducible refine (impl_Parent.calls t133 t134 t139 t140 _ A6.out).mono ?_
        rintro e w22 ⟨rfl, hb⟩
        refine ⟨_, rfl, ?_⟩
        have n0_ := Aside0.mk (blk_below (g := gb132) (o := .cells #[.int .u64 a0_0, .int .u64 a0_1] 25 (0, 0)) (by (with_reducible repeat (first | refine blk_drewN ?_ _ | refine blk_drew ?_ | refine blk_alloc ?_ _)); exact BK132.out) hb)
        have n1_ := Aside0.mk (blk_below (g := gb137) (o := .cells #[.int .u64 t133, .int .u64 t134] 25 (0, 0)) (by (with_reducible repeat (first | refine blk_drewN ?_ _ | refine blk_drew ?_ | refine blk_alloc ?_ _)); exact BK137.out) hb)
        have n2_ := Aside0.mk (blk_below (g := gb138) (o := .cells #[.int .u64 t135, .int .u64 t136] 25 (0, 0)) (by (with_reducible repeat (first | refine blk_drewN ?_ _ | refine blk_drew ?_ | refine blk_alloc ?_ _)); exact BK138.out) hb)
        have n3_ := Aside0.mk (below_step (by repeat (first | (with_reducible first | exact HB.out | apply below_alloc | apply pw_below_drewN | apply below_drew1 | refine below_set ?_ GE132.out | refine below_set ?_ GE137.out | refine below_set ?_ GE138.out) | exact HB.out)) hb)
        clear BK132
        clear BK137
        clear BK138
        clear HB
        have BK132 := n0_
        have BK137 := n1_
        have BK138 := n2_
        have HB := n3_
        clear n0_ n1_ n2_ n3_
        (try clear hb)
        (try clear hb2)
        (try clear hk)
        (try clear hi)
        refine hK.out _ _ ⟨(blk_cell BK137.out 0).trans rfl, (blk_cell BK137.out 1).trans rfl, (blk_cell BK132.out 0).trans rfl, (blk_cell BK132.out 1).trans rfl, (blk_cell BK138.out 0).trans rfl, (blk_cell BK138.out 1).trans rfl⟩ (fun hHeld => ?_)
        clear hK K
        refine norm_ (a' := ?_) ?_ ?_
        rotate_left
        · show Act.put _ (some 30) _ = _
          simp only [Act.put, List.setIfInBounds_toArray, List.set_cons_zero, List.set_cons_succ, i64_w, i32_w]
          rfl
        refine pure_ (i := 23) (N := some 32) (v := ?_) (a' := ?_) #[true, true, true, true, true, true, true, true, true, true, true, true, true, true, true, true, true, true, true, true, true, true, true, true, false, false, false, false, false, false, false, false] rfl rfl (any_of HT_.out (by kernel_rfl)) (fun _ _ _ h => h) (Or.inl ⟨by rfl, ?_⟩) ?_ ?_
        rotate_left
        · intro w'
          go_simp
          with_reducible rfl
        rotate_left
        · simp only [Act.put, List.setIfInBounds_toArray, List.set_cons_zero, List.set_cons_succ, i64_w, i32_w]
          rfl
        refine pure_ (i := 24) (N := some 33) (v := ?_) (a' := ?_) #[true, true, true, true, true, true, true, true, true, true, true, true, true, true, true, true, true, true, true, true, true, true, true, true, true, false, false, false, false, false, false, false] rfl rfl (any_of HT_.out (by kernel_rfl)) (fun _ _ _ h => h) (Or.inl ⟨by rfl, ?_⟩) ?_ ?_
        rotate_left
        · intro w'
          go_simp
          with_reducible rfl
        rotate_left
        · simp only [Act.put, List.setIfInBounds_toArray, List.set_cons_zero, List.set_cons_succ, i64_w, i32_w]
          rfl
        refine pure_ (i := 25) (N := some 34) (v := ?_) (a' := ?_) #[true, true, true, true, true, true, true, true, true, true, true, true, true, true, true, true, true, true, true, true, true, true, true, true, true, true, false, false, false, false, false, false] rfl rfl (any_of HT_.out (by kernel_rfl)) (fun _ _ _ h => h) (Or.inl ⟨by rfl, ?_⟩) ?_ ?_
        rotate_left
        · intro w'
          go_simp
          with_reducible rfl
        rotate_left
        · simp only [Act.put, List.setIfInBounds_toArray, List.set_cons_zero, List.set_cons_succ, i64_w, i32_w]
          rfl
        refine take_ (i := 26) (N := some 35) (v := ?_) (a' := ?_) #[true, true, true, true, true, true, true, true, true, true, true, true, true, true, true, true, true, true, true, true, true, true, true, true, true, true, true, false, false, false, false, false] rfl rfl (take_ofW HT_.out HW_.out (by kernel_rfl)) (fun _ _ _ h => h) (Or.inl ⟨by rfl, ?_⟩) hHeld ?_ ?_
        rotate_left
        · rintro w' ⟨s0, s1, s2, s3, s4, s5⟩
          go_simp
          with_reducible rfl
        rotate_left
        · simp only [Act.put, List.setIfInBounds_toArray, List.set_cons_zero, List.set_cons_succ, i64_w, i32_w]
          rfl
        refine take_ (i := 28) (N := some 37) (v := ?_) (a' := ?_) #[true, true, true, true, true, true, true, true, true, true, true, true, true, true, true, true, true, true, true, true, true, true, true, true, true, true, true, false, true, false, false, false] rfl rfl (take_ofW HT_.out HW_.out (by kernel_rfl)) (fun _ _ _ h => h) (Or.inl ⟨by rfl, ?_⟩) hHeld ?_ ?_
        rotate_left
        · rintro w' ⟨s0, s1, s2, s3, s4, s5⟩
          go_simp
          with_reducible rfl
        rotate_left
        · simp only [Act.put, List.setIfInBounds_toArray, List.set_cons_zero, List.set_cons_succ, i64_w, i32_w]
          rfl
        refine one_ (i := 27) (N := some 36) #[true, true, true, true, true, true, true, true, true, true, true, true, true, true, true, true, true, true, true, true, true, true, true, true, true, true, true, true, true, false, false, false] rfl rfl (one_of HT_.out (by kernel_rfl)) (by decide) (fun K hK => ?_)
        refine goes_ Try.func5 (by kernel_rfl) rfl #[.agg #[.int .u64 t133, .int .u64 t134]] (by rfl) rfl rfl (by (try simp only [List.map_toArray, List.map_cons, List.map_nil]); first | done | rfl | (simp only [List.length_drop, List.length_take]; rfl)) ?_
        with_reducible refine (impl_Sibling.calls t133 t134 t141 t142 _ A8.out).mono ?_
        rintro e w23 ⟨rfl, hb⟩
        refine ⟨_, rfl, ?_⟩
        have n0_ := Aside0.mk (blk_below (g := gb132) (o := .cells #[.int .u64 a0_0, .int .u64 a0_1] 25 (0, 0)) (by (with_reducible repeat (first | refine blk_drewN ?_ _ | refine blk_drew ?_ | refine blk_alloc ?_ _)); exact BK132.out) hb)
        have n1_ := Aside0.mk (blk_below (g := gb137) (o := .cells #[.int .u64 t133, .int .u64 t134] 25 (0, 0)) (by (with_reducible repeat (first | refine blk_drewN ?_ _ | refine blk_drew ?_ | refine blk_alloc ?_ _)); exact BK137.out) hb)
        have n2_ := Aside0.mk (blk_below (g := gb138) (o := .cells #[.int .u64 t135, .int .u64 t136] 25 (0, 0)) (by (with_reducible repeat (first | refine blk_drewN ?_ _ | refine blk_drew ?_ | refine blk_alloc ?_ _)); exact BK138.out) hb)
        have n3_ := Aside0.mk (below_step (by repeat (first | (with_reducible first | exact HB.out | apply below_alloc | apply pw_below_drewN | apply below_drew1 | refine below_set ?_ GE132.out | refine below_set ?_ GE137.out | refine below_set ?_ GE138.out) | exact HB.out)) hb)
        clear BK132
        clear BK137
        clear BK138
        clear HB
        have BK132 := n0_
        have BK137 := n1_
        have BK138 := n2_
        have HB := n3_
        clear n0_ n1_ n2_ n3_
        (try clear hb)
        (try clear hb2)
        (try clear hk)
        (try clear hi)
        refine hK.out _ _ ⟨(blk_cell BK137.out 0).trans rfl, (blk_cell BK137.out 1).trans rfl, (blk_cell BK132.out 0).trans rfl, (blk_cell BK132.out 1).trans rfl, (blk_cell BK138.out 0).trans rfl, (blk_cell BK138.out 1).trans rfl⟩ (fun hHeld => ?_)
        clear hK K
        refine norm_ (a' := ?_) ?_ ?_
        rotate_left
        · show Act.put _ (some 36) _ = _
          simp only [Act.put, List.setIfInBounds_toArray, List.set_cons_zero, List.set_cons_succ, i64_w, i32_w]
          rfl
        refine pure_ (i := 29) (N := some 38) (v := ?_) (a' := ?_) #[true, true, true, true, true, true, true, true, true, true, true, true, true, true, true, true, true, true, true, true, true, true, true, true, true, true, true, true, true, true, false, false] rfl rfl (any_of HT_.out (by kernel_rfl)) (fun _ _ _ h => h) (Or.inl ⟨by rfl, ?_⟩) ?_ ?_
        rotate_left
        · intro w'
          go_simp
          with_reducible rfl
        rotate_left
        · simp only [Act.put, List.setIfInBounds_toArray, List.set_cons_zero, List.set_cons_succ, i64_w, i32_w]
          rfl
        refine pure_ (i := 30) (N := some 39) (v := ?_) (a' := ?_) #[true, true, true, true, true, true, true, true, true, true, true, true, true, true, true, true, true, true, true, true, true, true, true, true, true, true, true, true, true, true, true, false] rfl rfl (any_of HT_.out (by kernel_rfl)) (fun _ _ _ h => h) (Or.inl ⟨by rfl, ?_⟩) ?_ ?_
        rotate_left
        · intro w'
          go_simp
          with_reducible rfl
        rotate_left
        · simp only [Act.put, List.setIfInBounds_toArray, List.set_cons_zero, List.set_cons_succ, i64_w, i32_w]
          rfl
        refine pure_ (i := 31) (N := some 2) (v := ?_) (a' := ?_) #[true, true, true, true, true, true, true, true, true, true, true, true, true, true, true, true, true, true, true, true, true, true, true, true, true, true, true, true, true, true, true, true] rfl rfl (any_of HT_.out (by kernel_rfl)) (fun _ _ _ h => h) (Or.inl ⟨by rfl, ?_⟩) ?_ ?_
        rotate_left
        · intro w'
          go_simp
          with_reducible rfl
        rotate_left
        · simp only [Act.put, List.setIfInBounds_toArray, List.set_cons_zero, List.set_cons_succ, i64_w, i32_w]
          rfl
        refine done_ (done_of HT_.out (by kernel_rfl)) ?_
        try go_wp2
        go_ret
        exact ⟨by first | rfl | (simp [errW_none, errW_some] <;> rfl) | (simp [*, errW_none, errW_some] <;> rfl), by repeat (first | (with_reducible first | exact HB.out | apply below_alloc | apply pw_below_drewN | apply below_drew1 | refine below_set ?_ GE132.out | refine below_set ?_ GE137.out | refine below_set ?_ GE138.out) | exact HB.out)⟩
      · rw [if_neg c7] at H
        exact absurd H (by simp)
    · rw [if_neg c5] at H
      exact absurd H (by simp)
  · rw [if_neg c4] at H
    exact absurd H (by simp)

end Go.Proofs.Ythfgegaakfgjkaa.PFnFamily
