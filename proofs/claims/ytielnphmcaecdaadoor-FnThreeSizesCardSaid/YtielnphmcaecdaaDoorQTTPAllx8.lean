-- Written by a program of this session (wip/tools)
import Derived.Test.YtielnphmcaecdaaDoorQTTTreeMem
import Derived.Test.YtielnphmcaecdaaDoorQTTExtTreeB
import Derived.Test.YtielnphmcaecdaaDoorQTTNds
set_option maxHeartbeats 8000000
set_option maxRecDepth 100000
set_option linter.unusedVariables false
set_option linter.unusedSimpArgs false
namespace Go.Proofs.YtielnphmcaecdaaDoor.PAll
open Go.RowKit Go.Proofs.YtielnphmcaecdaaDoorW.PrintWords Go.Proofs.YtielnphmcaecdaaDoorW.PrintLast Go.Proofs.YtielnphmcaecdaaDoorW.PrintMore
attribute [local go_sem] max2_int min2_int max_two min_two max_three min_three max_four min_four   -- for this text's walks alone
def spec_Named.l0 : Nat → List (S51) → List (S49) → Int → Int → Int → Int → List (List Int) → Option ((List (S51)))
 | 0, _, _, _, _, _, _, _ => none
 | k + 1, x3, x11, x12, x13, x300000, x300001, x300002 => if x13 < x12 then (if 0 ≤ x13 then (if x13 < (x11.length : Int) then (if x13 < (x300002.length : Int) then (if x3.length < 3518437208883 then (spec_Named.l0 k (x3 ++ [(⟨(⟨(rd_T49 x11 x13).f0, (rd_T49 x11 x13).f1⟩ : S49), rd_L1 x300002 x13⟩ : S51)]) x11 x12 (wrap64 (x13 + 1)) x300000 x300001 x300002) else (none)) else (none)) else (none)) else (none)) else (some x3)
def spec_Named.f (k : Nat) (a0_0 : Int) (a0_1 : Int) (l0_2 : List (List Int)) : Option ((List (S51))) := (spec_Nodes.f k a0_0 a0_1).bind fun t300 => (spec_Named.l0 k ([] : List (S51)) t300 (t300.length : Int) 0 a0_0 a0_1 l0_2)
def spec_Named.T5 : Bool × List (List Nat × List Nat) := (true, [([], []), ([], []), ([], []), ([2], [2]), ([], []), ([3, 4], [3, 4]), ([5], [5]), ([1, 6], [1, 6]), ([7], [7]), ([0, 8], [0, 8]), ([9, 9, 0, 1, 2, 3, 4, 5, 6, 7, 8, 9], [0, 9])])
def spec_Named.B5 : List Nat := [0, 0, 0, 4, 0, 28, 60, 126, 254, 511, 1023]
theorem spec_Named.tab5 : rtab .any (opsOf Tryd.f56 5) = spec_Named.T5 := by kernel_rfl
theorem spec_Named.bits5 : waitsOk spec_Named.T5.2 spec_Named.B5 = true := by kernel_rfl
theorem spec_Named.calls (k : Nat) (a0_0 : Int) (a0_1 : Int) (P0_2_ : Nat → Prop) (A0_2 : Option Addr) (c0_2 : Nat) (l0_2 : List (List Int)) (r : List (S51)) (w : World) (hs0_2 : Kd.V (Kd.slice 5 (Kd.int .u8)) 27 w w.heap.size (fun k_ => P0_2_ k_) (.slice A0_2 l0_2.length c0_2) l0_2) (h : spec_Named.f k a0_0 a0_1 l0_2 = some r) :
 Calls Tryd.prog 56 #[.agg #[.int .u64 a0_0, .int .u64 a0_1, .slice A0_2 l0_2.length c0_2]] w fun e w' => ∃ v0_ : Value, e = .returned (v0_) ∧ Kd.N k51 51 w' w.heap.size (fun k_ => (P0_2_ k_ ∨ w.heap.size ≤ k_)) v0_ r ∧ Below w.heap.size w w' := by
 have hu34 := Tryd.underlying34
 have hu53 := Tryd.underlying53
 have hu49 := Tryd.underlying49
 have hu51 := Tryd.underlying51
 have HO0_2 := Aside0.mk (show Kd.V (Kd.slice 5 (Kd.int .u8)) 27 w w.heap.size (fun k_ => (P0_2_ k_ ∨ w.heap.size ≤ k_)) (.slice A0_2 l0_2.length c0_2) l0_2 from Kd.V_mono hs0_2 (fun k_ hk => .inl hk))
 have HB := Aside0.mk (Below.refl w.heap.size w)
 have H : ((spec_Nodes.f k a0_0 a0_1).bind fun t300 => (spec_Named.l0 k ([] : List (S51)) t300 (t300.length : Int) 0 a0_0 a0_1 l0_2)) = some r := h
 clear h
 replace H := Option.bind_eq_some_iff.mp H
 obtain ⟨t300, A20, H⟩ := H
 replace H : (spec_Named.l0 k ([] : List (S51)) t300 (t300.length : Int) 0 a0_0 a0_1 l0_2) = some r := H
 have A2 := Aside0.mk A20
 clear A20
 have H' := Aside0.mk H
 clear H
 go_enter Tryd.func56, Tryd.ntmps56
 go_wp2_with (first | ((with_reducible refine gate_dst (N := 1) rfl ?_); refine box_event ?hg (N := 1) ?hd (cs := #[.int .u64 a0_0, .int .u64 a0_1, .slice A0_2 l0_2.length c0_2]) (t := 34) ?hr ?_; (case hd => rfl); (case hg => rfl); (case hr => first | (go_simp; done)); intro gb299 hg w3 hbox hb; have n0_ := Aside0.mk (Kd.V_below (Kd.V_elderB (by exact HO0_2.out) gb299 (Nat.le_of_eq hg.symm)) hb); have n1_ := Aside0.mk (below_step (by repeat (first | (with_reducible first | exact HB.out))) hb); have n2_ := Aside0.mk (hbox); have n3_ := Aside0.mk ((by rw [hg]; exact (below_size (by repeat (first | (with_reducible first | exact HB.out)))) : w.heap.size ≤ gb299)); have n4_ := Aside0.mk ((by rw [hg]; exact (below_size (by repeat (first | (with_reducible first | exact HB.out)))) : w.heap.size ≤ gb299)); clear HO0_2; clear HB; have HO0_2 := n0_; have HB := n1_; have BK299 := n2_; have GW299 := n3_; have GE299 := n4_; clear n0_ n1_ n2_ n3_ n4_; clear hb hbox hg; have hcz4_0 : w3.cell? ⟨gb299, 0, none⟩ = some (.int .u64 a0_0) := (blk_cell BK299.out 0).trans rfl; have hcz4_1 : w3.cell? ⟨gb299, 1, none⟩ = some (.int .u64 a0_1) := (blk_cell BK299.out 1).trans rfl; have hcz4_2 : w3.cell? ⟨gb299, 2, none⟩ = some (.slice A0_2 l0_2.length c0_2) := (blk_cell BK299.out 2).trans rfl; have hfz4_0 := blk_frozen BK299.out 0; have hfz4_1 := blk_frozen BK299.out 1; have hfz4_2 := blk_frozen BK299.out 2) | ((with_reducible refine gate_callee (f := 81) rfl ?_); refine goesL_ (some 11) rfl rfl Tryd.func81 (by kernel_rfl) rfl #[.agg #[.int .u64 a0_0, .int .u64 a0_1]] rfl (by (try simp only [List.map_toArray, List.map_cons, List.map_nil]); first | rfl) ?_; (with_reducible refine (spec_Nodes.calls k a0_0 a0_1 t300 _ A2.out).mono ?_); rintro e w5 ⟨v301, rfl, ho0, hb⟩; refine ⟨_, rfl, ?_⟩; have n0_ := Aside0.mk (Kd.V_elder' (by exact HO0_2.out) (Kd.R_base ho0) hb); have n1_ := Aside0.mk (Kd.R_lower (Kd.R_newM (M := fun k_ => (w.heap.size ≤ k_)) ho0 (below_size (by repeat (first | (with_reducible first | exact HB.out)))) (fun k_ h_ => h_)) (below_size (by repeat (first | (with_reducible first | exact HB.out))))); have n2_ := Aside0.mk (blk_below (g := gb299) (o := .cells #[.int .u64 a0_0, .int .u64 a0_1, .slice A0_2 l0_2.length c0_2] 34 (0, 0)) (by exact BK299.out) hb); have n3_ := Aside0.mk (below_step (by repeat (first | (with_reducible first | exact HB.out))) hb); clear HO0_2; clear BK299; clear HB; have HO0_2 := n0_; have HO302 := n1_; have BK299 := n2_; have HB := n3_; clear n0_ n1_ n2_ n3_; (try clear hb); (try clear hb2); (try clear hk); (try clear hi); (try clear ho0); obtain ⟨Ao6, co6, eo6⟩ := Kd.R_slice HO302.out; subst eo6))
 try simp only [Act.put, List.setIfInBounds_toArray, List.set_cons_zero, List.set_cons_succ]
 go_loopg [3, 13] k (fun kq v3 v13 w' => ∃ (x3_1 : List (S51)) (x13_1 : Int), v13 = .int .i64 x13_1 ∧ Aside0 (spec_Named.l0 kq x3_1 t300 (t300.length : Int) x13_1 a0_0 a0_1 l0_2 = some r) ∧ Aside0 (kq ≤ k) ∧ Aside0 (Kd.N k51 51 w' w.heap.size (fun k_ => (P0_2_ k_ ∨ w.heap.size ≤ k_) ∧ some k_ ≠ ((.slice Ao6 t300.length co6) : Value).ownBlock ∧ k_ ≠ gb299) v3 x3_1) ∧ Aside0 (Kd.R k49 49 w' w.heap.size (fun k_ => (w.heap.size ≤ k_)) (.slice Ao6 t300.length co6) t300) ∧ Aside0 (Kd.V (Kd.slice 5 (Kd.int .u8)) 27 w' w.heap.size (fun k_ => (P0_2_ k_ ∨ w.heap.size ≤ k_) ∧ some k_ ≠ (v3 : Value).ownBlock ∧ some k_ ≠ ((.slice Ao6 t300.length co6) : Value).ownBlock ∧ k_ ≠ gb299) (.slice A0_2 l0_2.length c0_2) l0_2) ∧ Aside0 (w'.heap[gb299]? = some (.cells #[.int .u64 a0_0, .int .u64 a0_1, (.slice A0_2 l0_2.length c0_2)] 34 (0, 0))) ∧ Aside0 (Below w.heap.size w w'))
 case atStart => exact ⟨(([] : List (S51))), (0), (by first | rfl), H', ⟨Nat.le_refl _⟩, ⟨by first | exact Kd.N_nil _ _ _ _ _⟩, ⟨by exact Kd.R_mono HO302.out (fun _ hk => hk.1)⟩, ⟨by exact Kd.V_mono HO0_2.out (fun _ hk => ⟨hk.1.1, ⟨(by simp [Value.ownBlock]), ⟨hk.2, hk.1.2⟩⟩⟩)⟩, ⟨by exact BK299.out⟩, ⟨by repeat (first | (with_reducible first | exact HB.out))⟩⟩
 case round =>
  clear H'
  try clear p2
  try clear c5
  try clear hcz4_0
  try clear hcz4_1
  try clear hcz4_2
  try clear hfz4_0
  try clear hfz4_1
  try clear hfz4_2
  obtain ⟨x3_1, x13_1, rfl, HA, HK1, HO_3, HO_11, HO_300002, BK299, HB⟩ := hrel
  cases gk with
  | zero => exact absurd HA.out (by simp [spec_Named.l0])
  | succ k1 =>
   have H := HA.out
   clear HA
   simp only [spec_Named.l0] at H
   by_cases c7 : x13_1 < (t300.length : Int)
   ·rw [if_pos c7] at H
    have c7b0 : decide (x13_1 < (t300.length : Int)) = true := decide_eq_true c7
    clear c7
    by_cases c8 : 0 ≤ x13_1
    ·rw [if_pos c8] at H
     have c8b0 : decide (0 ≤ x13_1) = true := decide_eq_true c8
     clear c8
     by_cases c9 : x13_1 < (t300.length : Int)
     ·rw [if_pos c9] at H
      have c9b0 : decide (x13_1 < (t300.length : Int)) = true := decide_eq_true c9
      clear c9
      by_cases c10 : x13_1 < (l0_2.length : Int)
      ·rw [if_pos c10] at H
       have c10b0 : decide (x13_1 < (l0_2.length : Int)) = true := decide_eq_true c10
       clear c10
       by_cases c11 : x3_1.length < 3518437208883
       ·rw [if_pos c11] at H
        have LMc11 := Aside0.mk c11
        clear c11
        obtain ⟨y306, hy306⟩ : ∃ y_ : List (S51), y_ = (x3_1 ++ [(⟨(⟨(rd_T49 t300 x13_1).f0, (rd_T49 t300 x13_1).f1⟩ : S49), rd_L1 l0_2 x13_1⟩ : S51)]) := ⟨_, rfl⟩
        replace H : (spec_Named.l0 k1 y306 t300 (t300.length : Int) (wrap64 (x13_1 + 1)) a0_0 a0_1 l0_2) = some r := by first | (rw [hy306]; with_reducible exact H)
        have Ny306 := Aside0.mk hy306
        clear hy306
        have H' := Aside0.mk H
        clear H
        have p303 : 0 ≤ (x13_1 : Int) := of_decide_eq_true (by first | (with_reducible assumption))
        have q303 : x13_1 < (t300.length : Int) := of_decide_eq_true (by first | (with_reducible assumption))
        obtain ⟨ad303, e303, hx303_0, hx303_1⟩ := at_T49 (Kd.R_reads' HO_11.out).2.2 x13_1 p303 q303
        cases e303
        replace p303 := eq_true p303
        replace q303 := eq_true q303
        try go_wp2_with (first | ((with_reducible refine gate_dst (N := 5) rfl ?_); refine box_event ?hg (N := 5) ?hd (cs := #[.int .u64 0, .int .u64 0]) (t := 49) ?hr ?_; (case hd => rfl); (case hg => rfl); (case hr => first | (go_simp; done)); intro gb304 hg w12 hbox hb; have n0_ := Aside0.mk (Kd.N_below (Kd.N_elderB (by exact HO_3.out) gb304 (Nat.le_of_eq hg.symm)) hb); have n1_ := Aside0.mk (Kd.R_below (Kd.R_elderB (by exact HO_11.out) gb304 (Nat.le_of_eq hg.symm)) hb); have n2_ := Aside0.mk (Kd.V_below (Kd.V_elderB (by exact HO_300002.out) gb304 (Nat.le_of_eq hg.symm)) hb); have n3_ := Aside0.mk (blk_below (g := gb299) (o := .cells #[.int .u64 a0_0, .int .u64 a0_1, .slice A0_2 l0_2.length c0_2] 34 (0, 0)) (by exact BK299.out) hb); have n4_ := Aside0.mk (below_step (by repeat (first | (with_reducible first | exact HB.out))) hb); have n5_ := Aside0.mk (hbox); have n6_ := Aside0.mk ((by rw [hg]; exact (below_size (by repeat (first | (with_reducible first | exact HB.out)))) : w.heap.size ≤ gb304)); have n7_ := Aside0.mk ((by rw [hg]; exact (below_size (by repeat (first | (with_reducible first | exact HB.out)))) : w.heap.size ≤ gb304)); have n8_ := Aside0.mk ((by rw [hg]; exact Nat.ne_of_lt (blk_lt (g := gb299) (o := .cells #[.int .u64 a0_0, .int .u64 a0_1, .slice A0_2 l0_2.length c0_2] 34 (0, 0)) (by exact BK299.out)) : gb299 ≠ gb304)); have n9_ := Aside0.mk ((by rw [hg]; exact Nat.ne_of_gt (blk_lt (g := gb299) (o := .cells #[.int .u64 a0_0, .int .u64 a0_1, .slice A0_2 l0_2.length c0_2] 34 (0, 0)) (by exact BK299.out)) : gb304 ≠ gb299)); clear HO_3; clear HO_11; clear HO_300002; clear BK299; clear HB; have HO_3 := n0_; have HO_11 := n1_; have HO_300002 := n2_; have BK299 := n3_; have HB := n4_; have BK304 := n5_; have GW304 := n6_; have GE304 := n7_; have NB299_304 := n8_; have NB304_299 := n9_; clear n0_ n1_ n2_ n3_ n4_ n5_ n6_ n7_ n8_ n9_; clear hb hbox hg; have hnb13 := NB304_299.out; have hnc13 := NB299_304.out; have hcz14_0 : w12.cell? ⟨gb304, 0, none⟩ = some (.int .u64 0) := (blk_cell BK304.out 0).trans rfl; have hcz14_1 : w12.cell? ⟨gb304, 1, none⟩ = some (.int .u64 0) := (blk_cell BK304.out 1).trans rfl; have hfz14_0 := blk_frozen BK304.out 0; have hfz14_1 := blk_frozen BK304.out 1))
        have n0_ : Aside0 (Kd.N k51 51 ((w12.setCell ⟨gb304, 0, none⟩ (.int .u64 ((rd_T49 t300 x13_1).f0))).setCell ⟨gb304, 1, none⟩ (.int .u64 ((rd_T49 t300 x13_1).f1))) w.heap.size (fun k_ => (P0_2_ k_ ∨ w.heap.size ≤ k_) ∧ some k_ ≠ (.slice (some ad303) t300.length co6 : Value).ownBlock ∧ k_ ≠ gb299 ∧ k_ ≠ gb304) u3 x3_1) := ⟨by exact Kd.N_mono (Kd.N_far (p := ⟨gb304, 1, none⟩) (Kd.N_far (p := ⟨gb304, 0, none⟩) (Kd.N_mono HO_3.out (fun k_ hk => (⟨hk, hk.2⟩ : _ ∧ k_ ≠ gb304))) (fun _ hk => hk.2) (.int .u64 ((rd_T49 t300 x13_1).f0))) (fun _ hk => hk.2) (.int .u64 ((rd_T49 t300 x13_1).f1))) (fun _ hk => ⟨hk.1.1.1, ⟨hk.1.1.2.1, ⟨hk.1.1.2.2, hk.1.2⟩⟩⟩)⟩
        have n1_ : Aside0 (Kd.R k49 49 ((w12.setCell ⟨gb304, 0, none⟩ (.int .u64 ((rd_T49 t300 x13_1).f0))).setCell ⟨gb304, 1, none⟩ (.int .u64 ((rd_T49 t300 x13_1).f1))) w.heap.size (fun k_ => (w.heap.size ≤ k_) ∧ k_ ≠ gb304) (.slice (some ad303) t300.length co6) t300) := ⟨by exact Kd.R_mono (Kd.R_far (p := ⟨gb304, 1, none⟩) (Kd.R_far (p := ⟨gb304, 0, none⟩) (Kd.R_mono HO_11.out (fun k_ hk => (⟨hk, hk.2⟩ : _ ∧ k_ ≠ gb304))) (fun _ hk => hk.2) (.int .u64 ((rd_T49 t300 x13_1).f0))) (fun _ hk => hk.2) (.int .u64 ((rd_T49 t300 x13_1).f1))) (fun _ hk => ⟨hk.1.1, hk.1.2⟩)⟩
        have n2_ : Aside0 (Kd.V (Kd.slice 5 (Kd.int .u8)) 27 ((w12.setCell ⟨gb304, 0, none⟩ (.int .u64 ((rd_T49 t300 x13_1).f0))).setCell ⟨gb304, 1, none⟩ (.int .u64 ((rd_T49 t300 x13_1).f1))) w.heap.size (fun k_ => (P0_2_ k_ ∨ w.heap.size ≤ k_) ∧ some k_ ≠ (u3 : Value).ownBlock ∧ some k_ ≠ (.slice (some ad303) t300.length co6 : Value).ownBlock ∧ k_ ≠ gb299 ∧ k_ ≠ gb304) (.slice A0_2 l0_2.length c0_2) l0_2) := ⟨by exact Kd.V_mono (Kd.V_far (p := ⟨gb304, 1, none⟩) (Kd.V_far (p := ⟨gb304, 0, none⟩) (Kd.V_mono HO_300002.out (fun k_ hk => (⟨hk, hk.2⟩ : _ ∧ k_ ≠ gb304))) (fun _ hk => hk.2) (.int .u64 ((rd_T49 t300 x13_1).f0))) (fun _ hk => hk.2) (.int .u64 ((rd_T49 t300 x13_1).f1))) (fun _ hk => ⟨hk.1.1.1, ⟨hk.1.1.2.1, ⟨hk.1.1.2.2.1, ⟨hk.1.1.2.2.2, hk.1.2⟩⟩⟩⟩)⟩
        have n3_ : Aside0 (((w12.setCell ⟨gb304, 0, none⟩ (.int .u64 ((rd_T49 t300 x13_1).f0))).setCell ⟨gb304, 1, none⟩ (.int .u64 ((rd_T49 t300 x13_1).f1))).heap[gb299]? = some (.cells #[.int .u64 a0_0, .int .u64 a0_1, .slice A0_2 l0_2.length c0_2] 34 (0, 0))) := ⟨by refine blk_far ?_ NB299_304.out _; refine blk_far ?_ NB299_304.out _; exact BK299.out⟩
        have n4_ : Aside0 (((w12.setCell ⟨gb304, 0, none⟩ (.int .u64 ((rd_T49 t300 x13_1).f0))).setCell ⟨gb304, 1, none⟩ (.int .u64 ((rd_T49 t300 x13_1).f1))).heap[gb304]? = some (.cells #[.int .u64 ((rd_T49 t300 x13_1).f0), .int .u64 ((rd_T49 t300 x13_1).f1)] 49 (0, 0))) := ⟨by refine blk_put (cs := #[.int .u64 ((rd_T49 t300 x13_1).f0), .int .u64 0]) ?_ 1 _ rfl; refine blk_put (cs := #[.int .u64 0, .int .u64 0]) ?_ 0 _ rfl; exact BK304.out⟩
        have n5_ : Aside0 (Below w.heap.size w ((w12.setCell ⟨gb304, 0, none⟩ (.int .u64 ((rd_T49 t300 x13_1).f0))).setCell ⟨gb304, 1, none⟩ (.int .u64 ((rd_T49 t300 x13_1).f1)))) := ⟨by repeat (first | (with_reducible first | exact HB.out | refine below_set ?_ GE304.out))⟩
        (try clear HO_3)
        (try clear HO_11)
        (try clear HO_300002)
        (try clear BK299)
        (try clear BK304)
        (try clear HB)
        generalize ((w12.setCell ⟨gb304, 0, none⟩ (.int .u64 ((rd_T49 t300 x13_1).f0))).setCell ⟨gb304, 1, none⟩ (.int .u64 ((rd_T49 t300 x13_1).f1))) = w15 at n0_ n1_ n2_ n3_ n4_ n5_ ⊢
        have HO_3 := n0_
        have HO_11 := n1_
        have HO_300002 := n2_
        have BK299 := n3_
        have BK304 := n4_
        have HB := n5_
        clear n0_ n1_ n2_ n3_ n4_ n5_
        (try (rw [drewN_self w15]; generalize hq_ : World.drewN w15 _ = w15; have n0_ : Aside0 (Kd.R k49 49 w15 w.heap.size (fun k_ => (w.heap.size ≤ k_) ∧ k_ ≠ gb304) (.slice (some ad303) t300.length co6) t300) := ⟨by rw [← hq_]; exact (by exact HO_11.out)⟩; have n1_ : Aside0 (Kd.N k51 51 w15 w.heap.size (fun k_ => (P0_2_ k_ ∨ w.heap.size ≤ k_) ∧ some k_ ≠ (.slice (some ad303) t300.length co6 : Value).ownBlock ∧ k_ ≠ gb299 ∧ k_ ≠ gb304) u3 x3_1) := ⟨by rw [← hq_]; exact (by exact HO_3.out)⟩; have n2_ : Aside0 (Kd.V (Kd.slice 5 (Kd.int .u8)) 27 w15 w.heap.size (fun k_ => (P0_2_ k_ ∨ w.heap.size ≤ k_) ∧ some k_ ≠ (.slice (some ad303) t300.length co6 : Value).ownBlock ∧ some k_ ≠ (u3 : Value).ownBlock ∧ k_ ≠ gb299 ∧ k_ ≠ gb304) (.slice A0_2 l0_2.length c0_2) l0_2) := ⟨by rw [← hq_]; exact (by exact Kd.V_mono HO_300002.out (fun _ hk => ⟨hk.1, ⟨hk.2.2.1, ⟨hk.2.1, ⟨hk.2.2.2.1, hk.2.2.2.2⟩⟩⟩⟩))⟩; have n3_ : Aside0 (w15.heap[gb299]? = some (.cells #[.int .u64 a0_0, .int .u64 a0_1, .slice A0_2 l0_2.length c0_2] 34 (0, 0))) := ⟨by rw [← hq_]; exact (by exact BK299.out)⟩; have n4_ : Aside0 (w15.heap[gb304]? = some (.cells #[.int .u64 ((rd_T49 t300 x13_1).f0), .int .u64 ((rd_T49 t300 x13_1).f1)] 49 (0, 0))) := ⟨by rw [← hq_]; exact (by exact BK304.out)⟩; have n5_ : Aside0 (Below w.heap.size w w15) := ⟨by rw [← hq_]; exact (by repeat (first | exact HB.out))⟩; clear HO_11 HO_3 HO_300002 BK299 BK304 HB hq_; have HO_11 := n0_; have HO_3 := n1_; have HO_300002 := n2_; have BK299 := n3_; have BK304 := n4_; have HB := n5_; clear n0_ n1_ n2_ n3_ n4_ n5_))
        have n0_ := Aside0.mk (Kd.N_drew HO_3.out)
        have n1_ := Aside0.mk (Kd.R_drew HO_11.out)
        have n2_ := Aside0.mk (Kd.V_drew HO_300002.out)
        have n3_ := Aside0.mk (blk_drew BK299.out)
        have n4_ := Aside0.mk (blk_drew BK304.out)
        have n5_ := Aside0.mk (below_drew1 HB.out)
        clear HO_3
        clear HO_11
        clear HO_300002
        clear BK299
        clear BK304
        clear HB
        have HO_3 := n0_
        have HO_11 := n1_
        have HO_300002 := n2_
        have BK299 := n3_
        have BK304 := n4_
        have HB := n5_
        clear n0_ n1_ n2_ n3_ n4_ n5_
        have p305 : 0 ≤ (x13_1 : Int) := of_decide_eq_true (by first | (with_reducible assumption))
        have q305 : x13_1 < (l0_2.length : Int) := of_decide_eq_true (by first | (with_reducible assumption))
        obtain ⟨ad305, A305_0, c305_0, e305, hx305_0, hl305_0, hi305_0⟩ := at_L1 (Kd.V_reads' HO_300002.out).2.2 x13_1 p305 q305
        cases e305
        obtain ⟨ce305, hce305, hMe305, hcc305⟩ := Kd.V_get HO_300002.out [] x13_1 p305 (by first | exact q305)
        obtain ⟨ua305_0, uc305_0, rfl, ul305_0, ge305_0⟩ := Kd.FK_slice_open hMe305
        have hv305_0 := hcc305 0 _ rfl
        rw [Nat.add_zero, show ((Kd.slice 5 (Kd.int .u8))).sz = 1 from rfl, Nat.mul_one] at hv305_0
        replace hv305_0 := Option.some.inj (hv305_0.symm.trans hx305_0)
        injection hv305_0 with hva_ hvn_ hvc_
        rw [hva_] at ge305_0
        rw [hvc_] at ul305_0
        have HL305_0 := Aside0.mk (show Kd.V (Kd.int .u8) 5 _ w.heap.size _ _ (rd_L1 l0_2 x13_1) from Kd.V_mk ul305_0 ge305_0)
        clear hva_ hvn_ hvc_ ge305_0 ul305_0
        clear hcc305 hce305
        have HR305_0 := Aside0.mk hi305_0
        have HC305_0 := Aside0.mk hl305_0
        clear hi305_0 hl305_0
        replace p305 := eq_true p305
        replace q305 := eq_true q305
        refine start_ (n := 11) (S := fun w' => w'.cell? ⟨gb304, 0, none⟩ = some (.int .u64 ((rd_T49 t300 x13_1).f0)) ∧ w'.cell? ⟨gb304, 1, none⟩ = some (.int .u64 ((rd_T49 t300 x13_1).f1)) ∧ w'.cell? ⟨gb299, 0, none⟩ = some (.int .u64 a0_0) ∧ w'.cell? ⟨gb299, 1, none⟩ = some (.int .u64 a0_1) ∧ w'.cell? ⟨gb299, 2, none⟩ = some (.slice (some ad305) l0_2.length c0_2) ∧ w'.cell? (ad305.add (x13_1).toNat) = some (.slice A305_0 (rd_L1 l0_2 x13_1).length c305_0)) (ds := [8, 9]) #[false, false, false, false, false, false, false, false, false, false, false] (by kernel_rfl) rfl rfl ⟨(blk_cell BK304.out 0).trans rfl, (blk_cell BK304.out 1).trans rfl, (blk_cell BK299.out 0).trans rfl, (blk_cell BK299.out 1).trans rfl, (blk_cell BK299.out 2).trans rfl, hx305_0⟩ (fun hHeld => ?_); refine with_tabW spec_Named.tab5 spec_Named.bits5 (fun HT_ HW_ => ?_)
        generalize w15.drew = w16 at HO_3 HO_11 HO_300002 BK299 BK304 HB HL305_0 HR305_0 hx305_0 hHeld ⊢
        refine pure_ (i := 0) (N := some 18) (v := ?_) (a' := ?_) #[true, false, false, false, false, false, false, false, false, false, false] rfl rfl (any_of HT_.out (by kernel_rfl)) (fun _ _ _ h => h) (Or.inl ⟨by rfl, ?_⟩) ?_ ?_
        rotate_left
        ·intro w'
         go_simp
         with_reducible rfl
        rotate_left
        ·simp only [Act.put, List.setIfInBounds_toArray, List.set_cons_zero, List.set_cons_succ, i64_w, i32_w]
         rfl
        refine pure_ (i := 2) (N := some 20) (v := ?_) (a' := ?_) #[true, false, true, false, false, false, false, false, false, false, false] rfl rfl (any_of HT_.out (by kernel_rfl)) (fun _ _ _ h => h) (Or.inl ⟨by rfl, ?_⟩) ?_ ?_
        rotate_left
        ·intro w'
         go_simp
         with_reducible rfl
        rotate_left
        ·simp only [Act.put, List.setIfInBounds_toArray, List.set_cons_zero, List.set_cons_succ, i64_w, i32_w]
         rfl
        refine pure_ (i := 4) (N := some 22) (v := ?_) (a' := ?_) #[true, false, true, false, true, false, false, false, false, false, false] rfl rfl (any_of HT_.out (by kernel_rfl)) (fun _ _ _ h => h) (Or.inl ⟨by rfl, ?_⟩) ?_ ?_
        rotate_left
        ·intro w'
         go_simp
         with_reducible rfl
        rotate_left
        ·simp only [Act.put, List.setIfInBounds_toArray, List.set_cons_zero, List.set_cons_succ, i64_w, i32_w]
         rfl
        refine take_ (i := 1) (N := some 19) (v := ?_) (a' := ?_) #[true, true, true, false, true, false, false, false, false, false, false] rfl rfl (take_ofW HT_.out HW_.out (by kernel_rfl)) (fun _ _ _ h => h) (Or.inl ⟨by rfl, ?_⟩) hHeld ?_ ?_
        rotate_left
        ·rintro w' ⟨s0, s1, s2, s3, s4, s5⟩
         go_simp
         with_reducible rfl
        rotate_left
        ·simp only [Act.put, List.setIfInBounds_toArray, List.set_cons_zero, List.set_cons_succ, i64_w, i32_w]
         rfl
        refine take_ (i := 3) (N := some 21) (v := ?_) (a' := ?_) #[true, true, true, true, true, false, false, false, false, false, false] rfl rfl (take_ofW HT_.out HW_.out (by kernel_rfl)) (fun _ _ _ h => h) (Or.inl ⟨by rfl, ?_⟩) hHeld ?_ ?_
        rotate_left
        ·rintro w' ⟨s0, s1, s2, s3, s4, s5⟩
         go_simp
         with_reducible rfl
        rotate_left
        ·simp only [Act.put, List.setIfInBounds_toArray, List.set_cons_zero, List.set_cons_succ, i64_w, i32_w]
         rfl
        refine pure_ (i := 5) (N := some 23) (v := ?_) (a' := ?_) #[true, true, true, true, true, true, false, false, false, false, false] rfl rfl (any_of HT_.out (by kernel_rfl)) (fun _ _ _ h => h) (Or.inl ⟨by rfl, ?_⟩) ?_ ?_
        rotate_left
        ·intro w'
         go_simp
         with_reducible rfl
        rotate_left
        ·simp only [Act.put, List.setIfInBounds_toArray, List.set_cons_zero, List.set_cons_succ, i64_w, i32_w]
         rfl
        refine take_ (i := 6) (N := some 24) (v := ?_) (a' := ?_) #[true, true, true, true, true, true, true, false, false, false, false] rfl rfl (take_ofW HT_.out HW_.out (by kernel_rfl)) (fun _ _ _ h => h) (Or.inl ⟨by rfl, ?_⟩) hHeld ?_ ?_
        rotate_left
        ·rintro w' ⟨s0, s1, s2, s3, s4, s5⟩
         go_simp
         with_reducible rfl
        rotate_left
        ·simp only [Act.put, List.setIfInBounds_toArray, List.set_cons_zero, List.set_cons_succ, i64_w, i32_w]
         rfl
        refine pure_ (i := 7) (N := some 25) (v := ?_) (a' := ?_) #[true, true, true, true, true, true, true, true, false, false, false] rfl rfl (any_of HT_.out (by kernel_rfl)) (fun _ _ _ h => h) (Or.inl ⟨by rfl, ?_⟩) ?_ ?_
        rotate_left
        ·intro w'
         go_simp
         with_reducible rfl
        rotate_left
        ·simp only [Act.put, List.setIfInBounds_toArray, List.set_cons_zero, List.set_cons_succ, i64_w, i32_w]
         rfl
        refine last_ (i := 8) (N := some 26) #[true, true, true, true, true, true, true, true, true, false, false] rfl rfl (one_of HT_.out (by kernel_rfl)) (by decide) (fun K hK => ?_)
        refine value_ (w1 := ?_) (v := ?_) (by rfl) rfl ?_ ?_
        rotate_left 2
        ·go_simp
         constructor
         ·rfl
         ·rfl
        refine hK.out _ _ ?_
        clear hK K
        refine norm_ (a' := ?_) ?_ ?_
        rotate_left
        ·show Act.put _ (some 26) _ = _
         simp only [Act.put, List.setIfInBounds_toArray, List.set_cons_zero, List.set_cons_succ, i64_w, i32_w]
         rfl
        refine last_ (i := 9) (N := some 27) #[true, true, true, true, true, true, true, true, true, true, false] rfl rfl (one_of HT_.out (by kernel_rfl)) (by decide) (fun K hK => ?_)
        refine Kd.N_append_step k51 (w0 := w) w.heap.size (by rfl) (.tmp 18) (.tmp 26) 36 51 (.agg #[(.int .u64 0), (.int .u64 0), (.slice none 0 0)]) 40 rfl Tryd.underlying36 info51 rfl (by decide) (by omega) u3 x3_1 (⟨(⟨(rd_T49 t300 x13_1).f0, (rd_T49 t300 x13_1).f1⟩ : S49), rd_L1 l0_2 x13_1⟩ : S51) [.int .u64 ((rd_T49 t300 x13_1).f0), .int .u64 ((rd_T49 t300 x13_1).f1), .slice A305_0 (rd_L1 l0_2 x13_1).length c305_0] (fun k_ => (P0_2_ k_ ∨ w.heap.size ≤ k_) ∧ some k_ ≠ (.slice (some ad303) t300.length co6 : Value).ownBlock ∧ k_ ≠ gb299 ∧ k_ ≠ gb304) (fun k_ => ((fun k_ => (P0_2_ k_ ∨ w.heap.size ≤ k_) ∧ some k_ ≠ (.slice (some ad303) t300.length co6 : Value).ownBlock ∧ k_ ≠ gb299 ∧ k_ ≠ gb304)) k_ ∧ some k_ ≠ (u3 : Value).ownBlock) rfl rfl ?aP (fun _ hk => hk) ?aF ?aO ?aB ?aS ?aL ?_
        (case aP => exact (k51_mkF _ _ (⟨(⟨(rd_T49 t300 x13_1).f0, (rd_T49 t300 x13_1).f1⟩ : S49), rd_L1 l0_2 x13_1⟩ : S51) (Kd.V_reads' (Kd.V_mono (ok' := (fun k_ => ((fun k_ => (P0_2_ k_ ∨ w.heap.size ≤ k_) ∧ some k_ ≠ (.slice (some ad303) t300.length co6 : Value).ownBlock ∧ k_ ≠ gb299 ∧ k_ ≠ gb304)) k_ ∧ some k_ ≠ (u3 : Value).ownBlock)) (HL305_0.out) (fun k_ hk => ⟨⟨hk.1, ⟨hk.2.2.1, ⟨hk.2.2.2.1, hk.2.2.2.2⟩⟩⟩, hk.2.1⟩))).2.1 (Kd.V_F (Kd.V_mono (ok' := (fun k_ => ((fun k_ => (P0_2_ k_ ∨ w.heap.size ≤ k_) ∧ some k_ ≠ (.slice (some ad303) t300.length co6 : Value).ownBlock ∧ k_ ≠ gb299 ∧ k_ ≠ gb304)) k_ ∧ some k_ ≠ (u3 : Value).ownBlock)) (HL305_0.out) (fun k_ hk => ⟨⟨hk.1, ⟨hk.2.2.1, ⟨hk.2.2.2.1, hk.2.2.2.2⟩⟩⟩, hk.2.1⟩)))))
        (case aB => exact (by repeat (first | (with_reducible first | exact HB.out))))
        (case aF => exact (fun k_ hk => ⟨(.inr (Nat.le_trans (below_size (by repeat (first | (with_reducible first | exact HB.out)))) hk)), Kd.fresh' (Kd.R_lt (by exact HO_11.out)) k_ hk, Kd.freshB (g := gb299) (o := .cells #[.int .u64 a0_0, .int .u64 a0_1, .slice (some ad305) l0_2.length c0_2] 34 (0, 0)) (by exact BK299.out) k_ hk, Kd.freshB (g := gb304) (o := .cells #[.int .u64 ((rd_T49 t300 x13_1).f0), .int .u64 ((rd_T49 t300 x13_1).f1)] 49 (0, 0)) (by exact BK304.out) k_ hk⟩))
        (case aO => exact (by exact HO_3.out))
        (case aS => exact (below_size (by repeat (first | (with_reducible first | exact HB.out)))))
        (case aL => have := LMc11.out; omega)
        intro v307 w17 ho hb hg hat
        rw [← Ny306.out] at ho
        have n0_ := Aside0.mk (Kd.R_over' (by exact HO_11.out) (Kd.N_typed (by exact HO_3.out)) (by decide) hg)
        have n1_ := Aside0.mk (Kd.V_afterv (ok := (fun k_ => (P0_2_ k_ ∨ w.heap.size ≤ k_) ∧ some k_ ≠ (.slice (some ad303) t300.length co6 : Value).ownBlock ∧ k_ ≠ gb299 ∧ k_ ≠ gb304)) (by exact Kd.V_mono HO_300002.out (fun _ hk => ⟨⟨hk.1, ⟨hk.2.2.1, ⟨hk.2.2.2.1, hk.2.2.2.2⟩⟩⟩, hk.2.1⟩)) hg hat)
        have n2_ := Aside0.mk (blk_grown (g := gb299) (o := .cells #[.int .u64 a0_0, .int .u64 a0_1, .slice (some ad305) l0_2.length c0_2] 34 (0, 0)) (by exact BK299.out) hg (Kd.N_ne HO_3.out BK299.out (by decide)))
        have n3_ := Aside0.mk (blk_grown (g := gb304) (o := .cells #[.int .u64 ((rd_T49 t300 x13_1).f0), .int .u64 ((rd_T49 t300 x13_1).f1)] 49 (0, 0)) (by exact BK304.out) hg (Kd.N_ne HO_3.out BK304.out (by decide)))
        have n4_ := Aside0.mk (Kd.V_afterv (ok := (fun k_ => (P0_2_ k_ ∨ w.heap.size ≤ k_) ∧ some k_ ≠ (.slice (some ad303) t300.length co6 : Value).ownBlock ∧ k_ ≠ gb299 ∧ k_ ≠ gb304)) (by exact Kd.V_mono HL305_0.out (fun _ hk => ⟨⟨hk.1, ⟨hk.2.2.1, ⟨hk.2.2.2.1, hk.2.2.2.2⟩⟩⟩, hk.2.1⟩)) hg hat)
        have n5_ := Aside0.mk (hb)
        have n6_ := Aside0.mk (ho)
        clear HO_11
        clear HO_300002
        clear BK299
        clear BK304
        clear HL305_0
        clear HB
        clear HO_3
        have HO_11 := n0_
        have HO_300002 := n1_
        have BK299 := n2_
        have BK304 := n3_
        have HL305_0 := n4_
        have HB := n5_
        have HO308 := n6_
        clear n0_ n1_ n2_ n3_ n4_ n5_ n6_
        clear ho hb hg hat
        refine hK.out _ _ ?_
        clear hK K
        refine norm_ (a' := ?_) ?_ ?_
        rotate_left
        ·show Act.put _ (some 27) _ = _
         simp only [Act.put, List.setIfInBounds_toArray, List.set_cons_zero, List.set_cons_succ, i64_w, i32_w]
         rfl
        refine pure_ (i := 10) (N := some 3) (v := ?_) (a' := ?_) #[true, true, true, true, true, true, true, true, true, true, true] rfl rfl (any_of HT_.out (by kernel_rfl)) (fun _ _ _ h => h) (Or.inl ⟨by rfl, ?_⟩) ?_ ?_
        rotate_left
        ·intro w'
         go_simp
         with_reducible rfl
        rotate_left
        ·simp only [Act.put, List.setIfInBounds_toArray, List.set_cons_zero, List.set_cons_succ, i64_w, i32_w]
         rfl
        refine done_ (done_of HT_.out (by kernel_rfl)) ?_
        try go_wp2
        go_roundg k1
        case measure => have := HK1.out; omega
        case rel => exact ⟨(y306), (wrap64 (x13_1 + 1)), (by first | rfl), H', ⟨by have := HK1.out; omega⟩, ⟨by exact Kd.N_mono HO308.out (fun _ hk => ⟨hk.1, ⟨hk.2.1, hk.2.2.1⟩⟩)⟩, ⟨by exact Kd.R_mono HO_11.out (fun _ hk => hk.1)⟩, ⟨by exact Kd.V_mono HO_300002.out (fun _ hk => ⟨hk.1.1, ⟨hk.2, ⟨hk.1.2.1, hk.1.2.2.1⟩⟩⟩)⟩, ⟨by exact BK299.out⟩, ⟨by repeat (first | (with_reducible first | exact HB.out))⟩⟩
       ·rw [if_neg c11] at H
        exact absurd H (by simp)
      ·rw [if_neg c10] at H
       exact absurd H (by simp)
     ·rw [if_neg c9] at H
      exact absurd H (by simp)
    ·rw [if_neg c8] at H
     exact absurd H (by simp)
   ·rw [if_neg c7] at H
    have c7b0 : decide (x13_1 < (t300.length : Int)) = false := decide_eq_false c7
    clear c7
    obtain rfl := Option.some.inj H
    go_wp2
    go_ret
    exact ⟨_, by first | rfl, by exact Kd.N_mono HO_3.out (fun _ hk => hk.1), by repeat (first | (with_reducible first | exact HB.out))⟩
def laws_zzFits7.f (k : Nat) (a0_0 : Int) (a0_1 : Int) (l0_2 : List (List Int)) : Option (Bool) := (laws_zzFits2.f k l0_2).bind fun t315 => (if t315 = true then (some true) else (some false))
theorem laws_zzFits7.calls (k : Nat) (a0_0 : Int) (a0_1 : Int) (A0_2 : Option Addr) (c0_2 : Nat) (l0_2 : List (List Int)) (r : Bool) (w : World) (hr0_2 : Kd.C (Kd.slice 5 (Kd.int .u8)) w A0_2 l0_2.length l0_2) (hc0_2 : l0_2.length ≤ c0_2) (h : laws_zzFits7.f k a0_0 a0_1 l0_2 = some r) :
 Calls Tryd.prog 17 #[.agg #[.int .u64 a0_0, .int .u64 a0_1, .slice A0_2 l0_2.length c0_2]] w fun e w' => e = .returned (.bool r) ∧ Below w.heap.size w w' := by
 have hu34 := Tryd.underlying34
 have HR0_2 := Aside0.mk hr0_2
 have HC0_2 := Aside0.mk hc0_2
 clear hr0_2 hc0_2
 have HB := Aside0.mk (Below.refl w.heap.size w)
 have H : ((laws_zzFits2.f k l0_2).bind fun t315 => (if t315 = true then (some true) else (some false))) = some r := h
 clear h
 replace H := Option.bind_eq_some_iff.mp H
 obtain ⟨t315, A20, H⟩ := H
 replace H : (if t315 = true then (some true) else (some false)) = some r := H
 have A2 := Aside0.mk A20
 clear A20
 by_cases c3 : t315 = true
 ·subst c3
  have H1 : (some true) = some r := by rw [if_pos rfl] at H; exact H
  clear H
  have H := H1
  clear H1
  obtain rfl := Option.some.inj H
  go_enter Tryd.func17, Tryd.ntmps17
  go_wp2_with (first | ((with_reducible refine gate_dst (N := 1) rfl ?_); refine box_event ?hg (N := 1) ?hd (cs := #[.int .u64 a0_0, .int .u64 a0_1, .slice A0_2 l0_2.length c0_2]) (t := 34) ?hr ?_; (case hd => rfl); (case hg => rfl); (case hr => first | (go_simp; done)); intro gb314 hg w4 hbox hb; have n0_ := Aside0.mk (below_step (by repeat (first | (with_reducible first | exact HB.out))) hb); have n1_ := Aside0.mk (hbox); have n2_ := Aside0.mk ((by rw [hg]; exact (below_size (by repeat (first | (with_reducible first | exact HB.out)))) : w.heap.size ≤ gb314)); have n3_ := Aside0.mk ((by rw [hg]; exact (below_size (by repeat (first | (with_reducible first | exact HB.out)))) : w.heap.size ≤ gb314)); clear HB; have HB := n0_; have BK314 := n1_; have GW314 := n2_; have GE314 := n3_; clear n0_ n1_ n2_ n3_; clear hb hbox hg; have hcz5_0 : w4.cell? ⟨gb314, 0, none⟩ = some (.int .u64 a0_0) := (blk_cell BK314.out 0).trans rfl; have hcz5_1 : w4.cell? ⟨gb314, 1, none⟩ = some (.int .u64 a0_1) := (blk_cell BK314.out 1).trans rfl; have hcz5_2 : w4.cell? ⟨gb314, 2, none⟩ = some (.slice A0_2 l0_2.length c0_2) := (blk_cell BK314.out 2).trans rfl; have hfz5_0 := blk_frozen BK314.out 0; have hfz5_1 := blk_frozen BK314.out 1; have hfz5_2 := blk_frozen BK314.out 2) | ((with_reducible refine gate_callee (f := 12) rfl ?_); refine goesL_ (some 5) rfl rfl Tryd.func12 (by kernel_rfl) rfl #[.slice A0_2 l0_2.length c0_2] rfl (by (try simp only [List.map_toArray, List.map_cons, List.map_nil]); first | rfl) ?_; (with_reducible refine (laws_zzFits2.calls k _ _ l0_2 true _ ?side1 ?side2 A2.out).mono ?_); (case side1 => repeat (first | exact (Kd.C_below HR0_2.out HB.out))); (case side2 => exact HC0_2.out); rintro e w' ⟨rfl, ⟨nd, rfl⟩⟩; refine ⟨_, rfl, ?_⟩))
  go_ret
  exact ⟨by first | rfl, by repeat (first | (with_reducible first | exact HB.out | apply pw_below_drewN))⟩
 ·replace c3 := Bool.eq_false_iff.mpr c3
  subst c3
  have H1 : (some false) = some r := by rw [if_neg (show ¬ (false = true) by decide)] at H; exact H
  clear H
  have H := H1
  clear H1
  obtain rfl := Option.some.inj H
  go_enter Tryd.func17, Tryd.ntmps17
  go_wp2_with (first | ((with_reducible refine gate_dst (N := 1) rfl ?_); refine box_event ?hg (N := 1) ?hd (cs := #[.int .u64 a0_0, .int .u64 a0_1, .slice A0_2 l0_2.length c0_2]) (t := 34) ?hr ?_; (case hd => rfl); (case hg => rfl); (case hr => first | (go_simp; done)); intro gb314 hg w6 hbox hb; have n0_ := Aside0.mk (below_step (by repeat (first | (with_reducible first | exact HB.out))) hb); have n1_ := Aside0.mk (hbox); have n2_ := Aside0.mk ((by rw [hg]; exact (below_size (by repeat (first | (with_reducible first | exact HB.out)))) : w.heap.size ≤ gb314)); have n3_ := Aside0.mk ((by rw [hg]; exact (below_size (by repeat (first | (with_reducible first | exact HB.out)))) : w.heap.size ≤ gb314)); clear HB; have HB := n0_; have BK314 := n1_; have GW314 := n2_; have GE314 := n3_; clear n0_ n1_ n2_ n3_; clear hb hbox hg; have hcz7_0 : w6.cell? ⟨gb314, 0, none⟩ = some (.int .u64 a0_0) := (blk_cell BK314.out 0).trans rfl; have hcz7_1 : w6.cell? ⟨gb314, 1, none⟩ = some (.int .u64 a0_1) := (blk_cell BK314.out 1).trans rfl; have hcz7_2 : w6.cell? ⟨gb314, 2, none⟩ = some (.slice A0_2 l0_2.length c0_2) := (blk_cell BK314.out 2).trans rfl; have hfz7_0 := blk_frozen BK314.out 0; have hfz7_1 := blk_frozen BK314.out 1; have hfz7_2 := blk_frozen BK314.out 2) | ((with_reducible refine gate_callee (f := 12) rfl ?_); refine goesL_ (some 5) rfl rfl Tryd.func12 (by kernel_rfl) rfl #[.slice A0_2 l0_2.length c0_2] rfl (by (try simp only [List.map_toArray, List.map_cons, List.map_nil]); first | rfl) ?_; (with_reducible refine (laws_zzFits2.calls k _ _ l0_2 false _ ?side1 ?side2 A2.out).mono ?_); (case side1 => repeat (first | exact (Kd.C_below HR0_2.out HB.out))); (case side2 => exact HC0_2.out); rintro e w' ⟨rfl, ⟨nd, rfl⟩⟩; refine ⟨_, rfl, ?_⟩))
  go_ret
  exact ⟨by first | rfl, by repeat (first | (with_reducible first | exact HB.out | apply pw_below_drewN))⟩
def spec_ProperRange.f (k : Nat) (a0_0 : Int) (a0_1 : Int) (l0_2 : List (List Int)) : Option (Bool) := if a0_0 ≤ a0_1 then ((spec_Nodes.f k a0_0 a0_1).bind fun t317 => (some ((l0_2.length : Int) == (t317.length : Int)))) else (some false)
def spec_ProperRange.T1 : Bool × List (List Nat × List Nat) := (true, [([], []), ([0], [0]), ([], []), ([2], [2]), ([1, 3], [1, 3]), ([4], [4]), ([5], [5]), ([6, 5], [5, 6]), ([7, 5], [5, 7]), ([5], [5]), ([9, 5], [5, 9]), ([5], [5]), ([11, 5], [5, 11]), ([10, 12, 5], [5, 10, 12]), ([13, 5, 5], [5, 13]), ([14, 5], [5, 14]), ([8, 15, 5], [5, 8, 15]), ([5, 16], [5, 16]), ([17, 14, 0, 1, 2, 3, 4, 5, 6, 7, 8, 9, 10, 11, 12, 13, 14, 15, 16, 17], [17])])
def spec_ProperRange.B1 : List Nat := [0, 1, 0, 4, 15, 31, 63, 127, 255, 63, 575, 63, 2111, 7743, 15935, 32319, 65535, 131071, 262143]
theorem spec_ProperRange.tab1 : rtab .any (opsOf Tryd.f42 1) = spec_ProperRange.T1 := by kernel_rfl
theorem spec_ProperRange.bits1 : waitsOk spec_ProperRange.T1.2 spec_ProperRange.B1 = true := by kernel_rfl
theorem spec_ProperRange.calls (k : Nat) (a0_0 : Int) (a0_1 : Int) (A0_2 : Option Addr) (c0_2 : Nat) (l0_2 : List (List Int)) (r : Bool) (w : World) (hr0_2 : Kd.C (Kd.slice 5 (Kd.int .u8)) w A0_2 l0_2.length l0_2) (hc0_2 : l0_2.length ≤ c0_2) (h : spec_ProperRange.f k a0_0 a0_1 l0_2 = some r) :
 Calls Tryd.prog 42 #[.agg #[.int .u64 a0_0, .int .u64 a0_1, .slice A0_2 l0_2.length c0_2]] w fun e w' => e = .returned (.bool r) ∧ Below w.heap.size w w' := by
 have hu34 := Tryd.underlying34
 have hu53 := Tryd.underlying53
 have HR0_2 := Aside0.mk hr0_2
 have HC0_2 := Aside0.mk hc0_2
 clear hr0_2 hc0_2
 have HB := Aside0.mk (Below.refl w.heap.size w)
 have H : (if a0_0 ≤ a0_1 then ((spec_Nodes.f k a0_0 a0_1).bind fun t317 => (some ((l0_2.length : Int) == (t317.length : Int)))) else (some false)) = some r := h
 clear h
 by_cases c2 : a0_0 ≤ a0_1
 ·rw [if_pos c2] at H
  have c2b0 : decide (a0_0 ≤ a0_1) = true := decide_eq_true c2
  clear c2
  replace H := Option.bind_eq_some_iff.mp H
  obtain ⟨t317, A30, H⟩ := H
  replace H : (some ((l0_2.length : Int) == (t317.length : Int))) = some r := H
  have A3 := Aside0.mk A30
  clear A30
  obtain rfl := Option.some.inj H
  go_enter Tryd.func42, Tryd.ntmps42
  try go_wp2_with (first | ((with_reducible refine gate_dst (N := 1) rfl ?_); (try (refine gate_guard (by rfl) ?_; dsimp only)); refine box_event ?hg (N := 1) ?hd (cs := #[.int .u64 a0_0, .int .u64 a0_1, .slice A0_2 l0_2.length c0_2]) (t := 34) ?hr ?_; (case hd => rfl); (case hg => rfl); (case hr => first | (go_simp; done)); intro gb316 hg w4 hbox hb; have n0_ := Aside0.mk (below_step (by repeat (first | (with_reducible first | exact HB.out))) hb); have n1_ := Aside0.mk (hbox); have n2_ := Aside0.mk ((by rw [hg]; exact (below_size (by repeat (first | (with_reducible first | exact HB.out)))) : w.heap.size ≤ gb316)); have n3_ := Aside0.mk ((by rw [hg]; exact (below_size (by repeat (first | (with_reducible first | exact HB.out)))) : w.heap.size ≤ gb316)); clear HB; have HB := n0_; have BK316 := n1_; have GW316 := n2_; have GE316 := n3_; clear n0_ n1_ n2_ n3_; clear hb hbox hg))
  (try (rw [drewN_self w4]; generalize hq_ : World.drewN w4 _ = w4; have n0_ : Aside0 (w4.heap[gb316]? = some (.cells #[.int .u64 a0_0, .int .u64 a0_1, .slice A0_2 l0_2.length c0_2] 34 (0, 0))) := ⟨by rw [← hq_]; exact (by exact BK316.out)⟩; have n1_ : Aside0 (Below w.heap.size w w4) := ⟨by rw [← hq_]; exact (by repeat (first | exact HB.out))⟩; clear BK316 HB hq_; have BK316 := n0_; have HB := n1_; clear n0_ n1_))
  have n0_ := Aside0.mk (blk_drew BK316.out)
  have n1_ := Aside0.mk (below_drew1 HB.out)
  clear BK316
  clear HB
  have BK316 := n0_
  have HB := n1_
  clear n0_ n1_
  refine start_ (n := 19) (S := fun w' => w'.cell? ⟨gb316, 0, none⟩ = some (.int .u64 a0_0) ∧ w'.cell? ⟨gb316, 1, none⟩ = some (.int .u64 a0_1) ∧ w'.cell? ⟨gb316, 2, none⟩ = some (.slice A0_2 l0_2.length c0_2)) (ds := []) #[false, false, false, false, false, false, false, false, false, false, false, false, false, false, false, false, false, false, false] (by kernel_rfl) rfl rfl ⟨(blk_cell BK316.out 0).trans rfl, (blk_cell BK316.out 1).trans rfl, (blk_cell BK316.out 2).trans rfl⟩ (fun hHeld => ?_); refine with_tabW spec_ProperRange.tab1 spec_ProperRange.bits1 (fun HT_ HW_ => ?_)
  generalize w4.drew = w5 at BK316 HB hHeld ⊢
  refine pure_ (i := 0) (N := some 3) (v := ?_) (a' := ?_) #[true, false, false, false, false, false, false, false, false, false, false, false, false, false, false, false, false, false, false] rfl rfl (any_of HT_.out (by kernel_rfl)) (fun _ _ _ h => h) (Or.inl ⟨by rfl, ?_⟩) ?_ ?_
  rotate_left
  ·intro w'
   go_simp
   with_reducible rfl
  rotate_left
  ·simp only [Act.put, List.setIfInBounds_toArray, List.set_cons_zero, List.set_cons_succ, i64_w, i32_w]
   rfl
  refine pure_ (i := 2) (N := some 5) (v := ?_) (a' := ?_) #[true, false, true, false, false, false, false, false, false, false, false, false, false, false, false, false, false, false, false] rfl rfl (any_of HT_.out (by kernel_rfl)) (fun _ _ _ h => h) (Or.inl ⟨by rfl, ?_⟩) ?_ ?_
  rotate_left
  ·intro w'
   go_simp
   with_reducible rfl
  rotate_left
  ·simp only [Act.put, List.setIfInBounds_toArray, List.set_cons_zero, List.set_cons_succ, i64_w, i32_w]
   rfl
  refine take_ (i := 1) (N := some 4) (v := ?_) (a' := ?_) #[true, true, true, false, false, false, false, false, false, false, false, false, false, false, false, false, false, false, false] rfl rfl (take_ofW HT_.out HW_.out (by kernel_rfl)) (fun _ _ _ h => h) (Or.inl ⟨by rfl, ?_⟩) hHeld ?_ ?_
  rotate_left
  ·rintro w' ⟨s0, s1, s2⟩
   go_simp
   with_reducible rfl
  rotate_left
  ·simp only [Act.put, List.setIfInBounds_toArray, List.set_cons_zero, List.set_cons_succ, i64_w, i32_w]
   rfl
  refine take_ (i := 3) (N := some 6) (v := ?_) (a' := ?_) #[true, true, true, true, false, false, false, false, false, false, false, false, false, false, false, false, false, false, false] rfl rfl (take_ofW HT_.out HW_.out (by kernel_rfl)) (fun _ _ _ h => h) (Or.inl ⟨by rfl, ?_⟩) hHeld ?_ ?_
  rotate_left
  ·rintro w' ⟨s0, s1, s2⟩
   go_simp
   with_reducible rfl
  rotate_left
  ·simp only [Act.put, List.setIfInBounds_toArray, List.set_cons_zero, List.set_cons_succ, i64_w, i32_w]
   rfl
  refine pure_ (i := 4) (N := some 7) (v := ?_) (a' := ?_) #[true, true, true, true, true, false, false, false, false, false, false, false, false, false, false, false, false, false, false] rfl rfl (any_of HT_.out (by kernel_rfl)) (fun _ _ _ h => h) (Or.inl ⟨by rfl, ?_⟩) ?_ ?_
  rotate_left
  ·intro w'
   go_simp
   with_reducible rfl
  rotate_left
  ·simp only [Act.put, List.setIfInBounds_toArray, List.set_cons_zero, List.set_cons_succ, i64_w, i32_w]
   rfl
  refine pure_ (i := 5) (N := some 8) (v := ?_) (a' := ?_) #[true, true, true, true, true, true, false, false, false, false, false, false, false, false, false, false, false, false, false] rfl rfl (any_of HT_.out (by kernel_rfl)) (fun _ _ _ h => h) (Or.inl ⟨by rfl, ?_⟩) ?_ ?_
  rotate_left
  ·intro w'
   go_simp
   with_reducible rfl
  rotate_left
  ·simp only [Act.put, List.setIfInBounds_toArray, List.set_cons_zero, List.set_cons_succ, i64_w, i32_w]
   rfl
  refine pure_ (i := 6) (N := some 9) (v := ?_) (a' := ?_) #[true, true, true, true, true, true, true, false, false, false, false, false, false, false, false, false, false, false, false] rfl rfl (any_of HT_.out (by kernel_rfl)) (fun _ _ _ h => h) (Or.inl ⟨by rfl, ?_⟩) ?_ ?_
  rotate_left
  ·intro w'
   go_simp
   with_reducible rfl
  rotate_left
  ·simp only [Act.put, List.setIfInBounds_toArray, List.set_cons_zero, List.set_cons_succ, i64_w, i32_w]
   rfl
  refine pure_ (i := 9) (N := some 12) (v := ?_) (a' := ?_) #[true, true, true, true, true, true, true, false, false, true, false, false, false, false, false, false, false, false, false] rfl rfl (any_of HT_.out (by kernel_rfl)) (fun _ _ _ h => h) (Or.inl ⟨by rfl, ?_⟩) ?_ ?_
  rotate_left
  ·intro w'
   go_simp
   with_reducible rfl
  rotate_left
  ·simp only [Act.put, List.setIfInBounds_toArray, List.set_cons_zero, List.set_cons_succ, i64_w, i32_w]
   rfl
  refine pure_ (i := 11) (N := some 14) (v := ?_) (a' := ?_) #[true, true, true, true, true, true, true, false, false, true, false, true, false, false, false, false, false, false, false] rfl rfl (any_of HT_.out (by kernel_rfl)) (fun _ _ _ h => h) (Or.inl ⟨by rfl, ?_⟩) ?_ ?_
  rotate_left
  ·intro w'
   go_simp
   with_reducible rfl
  rotate_left
  ·simp only [Act.put, List.setIfInBounds_toArray, List.set_cons_zero, List.set_cons_succ, i64_w, i32_w]
   rfl
  refine take_ (i := 7) (N := some 10) (v := ?_) (a' := ?_) #[true, true, true, true, true, true, true, true, false, true, false, true, false, false, false, false, false, false, false] rfl rfl (take_ofW HT_.out HW_.out (by kernel_rfl)) (fun _ _ _ h => h) (Or.inl ⟨by rfl, ?_⟩) hHeld ?_ ?_
  rotate_left
  ·rintro w' ⟨s0, s1, s2⟩
   go_simp
   with_reducible rfl
  rotate_left
  ·simp only [Act.put, List.setIfInBounds_toArray, List.set_cons_zero, List.set_cons_succ, i64_w, i32_w]
   rfl
  refine pure_ (i := 8) (N := some 11) (v := ?_) (a' := ?_) #[true, true, true, true, true, true, true, true, true, true, false, true, false, false, false, false, false, false, false] rfl rfl (any_of HT_.out (by kernel_rfl)) (fun _ _ _ h => h) (Or.inl ⟨by rfl, ?_⟩) ?_ ?_
  rotate_left
  ·intro w'
   go_simp
   with_reducible rfl
  rotate_left
  ·simp only [Act.put, List.setIfInBounds_toArray, List.set_cons_zero, List.set_cons_succ, i64_w, i32_w]
   rfl
  refine take_ (i := 10) (N := some 13) (v := ?_) (a' := ?_) #[true, true, true, true, true, true, true, true, true, true, true, true, false, false, false, false, false, false, false] rfl rfl (take_ofW HT_.out HW_.out (by kernel_rfl)) (fun _ _ _ h => h) (Or.inl ⟨by rfl, ?_⟩) hHeld ?_ ?_
  rotate_left
  ·rintro w' ⟨s0, s1, s2⟩
   go_simp
   with_reducible rfl
  rotate_left
  ·simp only [Act.put, List.setIfInBounds_toArray, List.set_cons_zero, List.set_cons_succ, i64_w, i32_w]
   rfl
  refine take_ (i := 12) (N := some 15) (v := ?_) (a' := ?_) #[true, true, true, true, true, true, true, true, true, true, true, true, true, false, false, false, false, false, false] rfl rfl (take_ofW HT_.out HW_.out (by kernel_rfl)) (fun _ _ _ h => h) (Or.inl ⟨by rfl, ?_⟩) hHeld ?_ ?_
  rotate_left
  ·rintro w' ⟨s0, s1, s2⟩
   go_simp
   with_reducible rfl
  rotate_left
  ·simp only [Act.put, List.setIfInBounds_toArray, List.set_cons_zero, List.set_cons_succ, i64_w, i32_w]
   rfl
  refine pure_ (i := 13) (N := some 16) (v := ?_) (a' := ?_) #[true, true, true, true, true, true, true, true, true, true, true, true, true, true, false, false, false, false, false] rfl rfl (any_of HT_.out (by kernel_rfl)) (fun _ _ _ h => h) (Or.inl ⟨by rfl, ?_⟩) ?_ ?_
  rotate_left
  ·intro w'
   go_simp
   with_reducible rfl
  rotate_left
  ·simp only [Act.put, List.setIfInBounds_toArray, List.set_cons_zero, List.set_cons_succ, i64_w, i32_w]
   rfl
  refine one_ (i := 14) (N := some 17) #[true, true, true, true, true, true, true, true, true, true, true, true, true, true, true, false, false, false, false] rfl rfl (one_of HT_.out (by kernel_rfl)) (by decide) (fun K hK => ?_)
  refine goes_ Tryd.func81 (by kernel_rfl) rfl #[.agg #[.int .u64 a0_0, .int .u64 a0_1]] (by rfl) rfl rfl (by (try simp only [List.map_toArray, List.map_cons, List.map_nil]); first | rfl) ?_
  with_reducible refine (spec_Nodes.calls k a0_0 a0_1 t317 _ A3.out).mono ?_
  rintro e w6 ⟨v318, rfl, ho0, hb⟩
  refine ⟨_, rfl, ?_⟩
  have n0_ := Aside0.mk (Kd.R_lower ho0 (below_size (by repeat (first | (with_reducible first | exact HB.out)))))
  have n1_ := Aside0.mk (blk_below (g := gb316) (o := .cells #[.int .u64 a0_0, .int .u64 a0_1, .slice A0_2 l0_2.length c0_2] 34 (0, 0)) (by exact BK316.out) hb)
  have n2_ := Aside0.mk (below_step (by repeat (first | (with_reducible first | exact HB.out))) hb)
  clear BK316
  clear HB
  have HO319 := n0_
  have BK316 := n1_
  have HB := n2_
  clear n0_ n1_ n2_
  (try clear hb)
  (try clear hb2)
  (try clear hk)
  (try clear hi)
  (try clear ho0)
  obtain ⟨Ao7, co7, eo7⟩ := Kd.R_slice HO319.out
  (first | subst eo7)
  refine hK.out _ _ ⟨(blk_cell BK316.out 0).trans rfl, (blk_cell BK316.out 1).trans rfl, (blk_cell BK316.out 2).trans rfl⟩ (fun hHeld => ?_)
  clear hK K
  refine norm_ (a' := ?_) ?_ ?_
  rotate_left
  ·show Act.put _ (some 17) _ = _
   simp only [Act.put, List.setIfInBounds_toArray, List.set_cons_zero, List.set_cons_succ, i64_w, i32_w]
   rfl
  refine pure_ (i := 15) (N := some 18) (v := ?_) (a' := ?_) #[true, true, true, true, true, true, true, true, true, true, true, true, true, true, true, true, false, false, false] rfl rfl (any_of HT_.out (by kernel_rfl)) (fun _ _ _ h => h) (Or.inl ⟨by rfl, ?_⟩) ?_ ?_
  rotate_left
  ·intro w'
   go_simp
   with_reducible rfl
  rotate_left
  ·simp only [Act.put, List.setIfInBounds_toArray, List.set_cons_zero, List.set_cons_succ, i64_w, i32_w]
   rfl
  refine pure_ (i := 16) (N := some 19) (v := ?_) (a' := ?_) #[true, true, true, true, true, true, true, true, true, true, true, true, true, true, true, true, true, false, false] rfl rfl (any_of HT_.out (by kernel_rfl)) (fun _ _ _ h => h) (Or.inl ⟨by rfl, ?_⟩) ?_ ?_
  rotate_left
  ·intro w'
   go_simp
   with_reducible rfl
  rotate_left
  ·simp only [Act.put, List.setIfInBounds_toArray, List.set_cons_zero, List.set_cons_succ, i64_w, i32_w]
   rfl
  refine pure_ (i := 17) (N := some 20) (v := ?_) (a' := ?_) #[true, true, true, true, true, true, true, true, true, true, true, true, true, true, true, true, true, true, false] rfl rfl (any_of HT_.out (by kernel_rfl)) (fun _ _ _ h => h) (Or.inl ⟨by rfl, ?_⟩) ?_ ?_
  rotate_left
  ·intro w'
   go_simp
   with_reducible rfl
  rotate_left
  ·simp only [Act.put, List.setIfInBounds_toArray, List.set_cons_zero, List.set_cons_succ, i64_w, i32_w]
   rfl
  refine pure_ (i := 18) (N := some 2) (v := ?_) (a' := ?_) #[true, true, true, true, true, true, true, true, true, true, true, true, true, true, true, true, true, true, true] rfl rfl (any_of HT_.out (by kernel_rfl)) (fun _ _ _ h => h) (Or.inl ⟨by rfl, ?_⟩) ?_ ?_
  rotate_left
  ·intro w'
   go_simp
   with_reducible rfl
  rotate_left
  ·simp only [Act.put, List.setIfInBounds_toArray, List.set_cons_zero, List.set_cons_succ, i64_w, i32_w]
   rfl
  refine done_ (done_of HT_.out (by kernel_rfl)) ?_
  try go_wp2
  go_ret
  exact ⟨by first | rfl, by repeat (first | (with_reducible first | exact HB.out))⟩
 ·rw [if_neg c2] at H
  have c2b0 : decide (a0_0 ≤ a0_1) = false := decide_eq_false c2
  clear c2
  obtain rfl := Option.some.inj H
  go_enter Tryd.func42, Tryd.ntmps42
  try go_wp2_with (first | ((with_reducible refine gate_dst (N := 1) rfl ?_); (try (refine gate_guard (by rfl) ?_; dsimp only)); refine box_event ?hg (N := 1) ?hd (cs := #[.int .u64 a0_0, .int .u64 a0_1, .slice A0_2 l0_2.length c0_2]) (t := 34) ?hr ?_; (case hd => rfl); (case hg => rfl); (case hr => first | (go_simp; done)); intro gb316 hg w8 hbox hb; have n0_ := Aside0.mk (below_step (by repeat (first | (with_reducible first | exact HB.out))) hb); have n1_ := Aside0.mk (hbox); have n2_ := Aside0.mk ((by rw [hg]; exact (below_size (by repeat (first | (with_reducible first | exact HB.out)))) : w.heap.size ≤ gb316)); have n3_ := Aside0.mk ((by rw [hg]; exact (below_size (by repeat (first | (with_reducible first | exact HB.out)))) : w.heap.size ≤ gb316)); clear HB; have HB := n0_; have BK316 := n1_; have GW316 := n2_; have GE316 := n3_; clear n0_ n1_ n2_ n3_; clear hb hbox hg))
  (try (rw [drewN_self w8]; generalize hq_ : World.drewN w8 _ = w8; have n0_ : Aside0 (w8.heap[gb316]? = some (.cells #[.int .u64 a0_0, .int .u64 a0_1, .slice A0_2 l0_2.length c0_2] 34 (0, 0))) := ⟨by rw [← hq_]; exact (by exact BK316.out)⟩; have n1_ : Aside0 (Below w.heap.size w w8) := ⟨by rw [← hq_]; exact (by repeat (first | exact HB.out))⟩; clear BK316 HB hq_; have BK316 := n0_; have HB := n1_; clear n0_ n1_))
  have n0_ := Aside0.mk (blk_drew BK316.out)
  have n1_ := Aside0.mk (below_drew1 HB.out)
  clear BK316
  clear HB
  have BK316 := n0_
  have HB := n1_
  clear n0_ n1_
  refine start_ (n := 19) (S := fun w' => w'.cell? ⟨gb316, 0, none⟩ = some (.int .u64 a0_0) ∧ w'.cell? ⟨gb316, 1, none⟩ = some (.int .u64 a0_1) ∧ w'.cell? ⟨gb316, 2, none⟩ = some (.slice A0_2 l0_2.length c0_2)) (ds := []) #[false, false, false, false, false, false, false, false, false, false, false, false, false, false, false, false, false, false, false] (by kernel_rfl) rfl rfl ⟨(blk_cell BK316.out 0).trans rfl, (blk_cell BK316.out 1).trans rfl, (blk_cell BK316.out 2).trans rfl⟩ (fun hHeld => ?_); refine with_tabW spec_ProperRange.tab1 spec_ProperRange.bits1 (fun HT_ HW_ => ?_)
  generalize w8.drew = w9 at BK316 HB hHeld ⊢
  refine pure_ (i := 0) (N := some 3) (v := ?_) (a' := ?_) #[true, false, false, false, false, false, false, false, false, false, false, false, false, false, false, false, false, false, false] rfl rfl (any_of HT_.out (by kernel_rfl)) (fun _ _ _ h => h) (Or.inl ⟨by rfl, ?_⟩) ?_ ?_
  rotate_left
  ·intro w'
   go_simp
   with_reducible rfl
  rotate_left
  ·simp only [Act.put, List.setIfInBounds_toArray, List.set_cons_zero, List.set_cons_succ, i64_w, i32_w]
   rfl
  refine pure_ (i := 2) (N := some 5) (v := ?_) (a' := ?_) #[true, false, true, false, false, false, false, false, false, false, false, false, false, false, false, false, false, false, false] rfl rfl (any_of HT_.out (by kernel_rfl)) (fun _ _ _ h => h) (Or.inl ⟨by rfl, ?_⟩) ?_ ?_
  rotate_left
  ·intro w'
   go_simp
   with_reducible rfl
  rotate_left
  ·simp only [Act.put, List.setIfInBounds_toArray, List.set_cons_zero, List.set_cons_succ, i64_w, i32_w]
   rfl
  refine take_ (i := 1) (N := some 4) (v := ?_) (a' := ?_) #[true, true, true, false, false, false, false, false, false, false, false, false, false, false, false, false, false, false, false] rfl rfl (take_ofW HT_.out HW_.out (by kernel_rfl)) (fun _ _ _ h => h) (Or.inl ⟨by rfl, ?_⟩) hHeld ?_ ?_
  rotate_left
  ·rintro w' ⟨s0, s1, s2⟩
   go_simp
   with_reducible rfl
  rotate_left
  ·simp only [Act.put, List.setIfInBounds_toArray, List.set_cons_zero, List.set_cons_succ, i64_w, i32_w]
   rfl
  refine take_ (i := 3) (N := some 6) (v := ?_) (a' := ?_) #[true, true, true, true, false, false, false, false, false, false, false, false, false, false, false, false, false, false, false] rfl rfl (take_ofW HT_.out HW_.out (by kernel_rfl)) (fun _ _ _ h => h) (Or.inl ⟨by rfl, ?_⟩) hHeld ?_ ?_
  rotate_left
  ·rintro w' ⟨s0, s1, s2⟩
   go_simp
   with_reducible rfl
  rotate_left
  ·simp only [Act.put, List.setIfInBounds_toArray, List.set_cons_zero, List.set_cons_succ, i64_w, i32_w]
   rfl
  refine pure_ (i := 4) (N := some 7) (v := ?_) (a' := ?_) #[true, true, true, true, true, false, false, false, false, false, false, false, false, false, false, false, false, false, false] rfl rfl (any_of HT_.out (by kernel_rfl)) (fun _ _ _ h => h) (Or.inl ⟨by rfl, ?_⟩) ?_ ?_
  rotate_left
  ·intro w'
   go_simp
   with_reducible rfl
  rotate_left
  ·simp only [Act.put, List.setIfInBounds_toArray, List.set_cons_zero, List.set_cons_succ, i64_w, i32_w]
   rfl
  refine pure_ (i := 5) (N := some 8) (v := ?_) (a' := ?_) #[true, true, true, true, true, true, false, false, false, false, false, false, false, false, false, false, false, false, false] rfl rfl (any_of HT_.out (by kernel_rfl)) (fun _ _ _ h => h) (Or.inl ⟨by rfl, ?_⟩) ?_ ?_
  rotate_left
  ·intro w'
   go_simp
   with_reducible rfl
  rotate_left
  ·simp only [Act.put, List.setIfInBounds_toArray, List.set_cons_zero, List.set_cons_succ, i64_w, i32_w]
   rfl
  refine pure_ (i := 6) (N := some 9) (v := undef) (a' := ?_) #[true, true, true, true, true, true, true, false, false, false, false, false, false, false, false, false, false, false, false] rfl rfl (any_of HT_.out (by kernel_rfl)) (fun _ _ _ h => h) (Or.inr ⟨by rfl, rfl⟩) ?_ ?_
  rotate_left
  ·simp only [Act.put, List.setIfInBounds_toArray, List.set_cons_zero, List.set_cons_succ, i64_w, i32_w]
   rfl
  refine pure_ (i := 7) (N := some 10) (v := undef) (a' := ?_) #[true, true, true, true, true, true, true, true, false, false, false, false, false, false, false, false, false, false, false] rfl rfl (any_of HT_.out (by kernel_rfl)) (fun _ _ _ h => h) (Or.inr ⟨by rfl, rfl⟩) ?_ ?_
  rotate_left
  ·simp only [Act.put, List.setIfInBounds_toArray, List.set_cons_zero, List.set_cons_succ, i64_w, i32_w]
   rfl
  refine pure_ (i := 8) (N := some 11) (v := undef) (a' := ?_) #[true, true, true, true, true, true, true, true, true, false, false, false, false, false, false, false, false, false, false] rfl rfl (any_of HT_.out (by kernel_rfl)) (fun _ _ _ h => h) (Or.inr ⟨by rfl, rfl⟩) ?_ ?_
  rotate_left
  ·simp only [Act.put, List.setIfInBounds_toArray, List.set_cons_zero, List.set_cons_succ, i64_w, i32_w]
   rfl
  refine pure_ (i := 9) (N := some 12) (v := undef) (a' := ?_) #[true, true, true, true, true, true, true, true, true, true, false, false, false, false, false, false, false, false, false] rfl rfl (any_of HT_.out (by kernel_rfl)) (fun _ _ _ h => h) (Or.inr ⟨by rfl, rfl⟩) ?_ ?_
  rotate_left
  ·simp only [Act.put, List.setIfInBounds_toArray, List.set_cons_zero, List.set_cons_succ, i64_w, i32_w]
   rfl
  refine pure_ (i := 10) (N := some 13) (v := undef) (a' := ?_) #[true, true, true, true, true, true, true, true, true, true, true, false, false, false, false, false, false, false, false] rfl rfl (any_of HT_.out (by kernel_rfl)) (fun _ _ _ h => h) (Or.inr ⟨by rfl, rfl⟩) ?_ ?_
  rotate_left
  ·simp only [Act.put, List.setIfInBounds_toArray, List.set_cons_zero, List.set_cons_succ, i64_w, i32_w]
   rfl
  refine pure_ (i := 11) (N := some 14) (v := undef) (a' := ?_) #[true, true, true, true, true, true, true, true, true, true, true, true, false, false, false, false, false, false, false] rfl rfl (any_of HT_.out (by kernel_rfl)) (fun _ _ _ h => h) (Or.inr ⟨by rfl, rfl⟩) ?_ ?_
  rotate_left
  ·simp only [Act.put, List.setIfInBounds_toArray, List.set_cons_zero, List.set_cons_succ, i64_w, i32_w]
   rfl
  refine pure_ (i := 12) (N := some 15) (v := undef) (a' := ?_) #[true, true, true, true, true, true, true, true, true, true, true, true, true, false, false, false, false, false, false] rfl rfl (any_of HT_.out (by kernel_rfl)) (fun _ _ _ h => h) (Or.inr ⟨by rfl, rfl⟩) ?_ ?_
  rotate_left
  ·simp only [Act.put, List.setIfInBounds_toArray, List.set_cons_zero, List.set_cons_succ, i64_w, i32_w]
   rfl
  refine pure_ (i := 13) (N := some 16) (v := undef) (a' := ?_) #[true, true, true, true, true, true, true, true, true, true, true, true, true, true, false, false, false, false, false] rfl rfl (any_of HT_.out (by kernel_rfl)) (fun _ _ _ h => h) (Or.inr ⟨by rfl, rfl⟩) ?_ ?_
  rotate_left
  ·simp only [Act.put, List.setIfInBounds_toArray, List.set_cons_zero, List.set_cons_succ, i64_w, i32_w]
   rfl
  refine pure_ (i := 14) (N := some 17) (v := undef) (a' := ?_) #[true, true, true, true, true, true, true, true, true, true, true, true, true, true, true, false, false, false, false] rfl rfl (any_of HT_.out (by kernel_rfl)) (fun _ _ _ h => h) (Or.inr ⟨by rfl, rfl⟩) ?_ ?_
  rotate_left
  ·simp only [Act.put, List.setIfInBounds_toArray, List.set_cons_zero, List.set_cons_succ, i64_w, i32_w]
   rfl
  refine pure_ (i := 15) (N := some 18) (v := undef) (a' := ?_) #[true, true, true, true, true, true, true, true, true, true, true, true, true, true, true, true, false, false, false] rfl rfl (any_of HT_.out (by kernel_rfl)) (fun _ _ _ h => h) (Or.inr ⟨by rfl, rfl⟩) ?_ ?_
  rotate_left
  ·simp only [Act.put, List.setIfInBounds_toArray, List.set_cons_zero, List.set_cons_succ, i64_w, i32_w]
   rfl
  refine pure_ (i := 16) (N := some 19) (v := undef) (a' := ?_) #[true, true, true, true, true, true, true, true, true, true, true, true, true, true, true, true, true, false, false] rfl rfl (any_of HT_.out (by kernel_rfl)) (fun _ _ _ h => h) (Or.inr ⟨by rfl, rfl⟩) ?_ ?_
  rotate_left
  ·simp only [Act.put, List.setIfInBounds_toArray, List.set_cons_zero, List.set_cons_succ, i64_w, i32_w]
   rfl
  refine pure_ (i := 17) (N := some 20) (v := ?_) (a' := ?_) #[true, true, true, true, true, true, true, true, true, true, true, true, true, true, true, true, true, true, false] rfl rfl (any_of HT_.out (by kernel_rfl)) (fun _ _ _ h => h) (Or.inl ⟨by rfl, ?_⟩) ?_ ?_
  rotate_left
  ·intro w'
   go_simp
   with_reducible rfl
  rotate_left
  ·simp only [Act.put, List.setIfInBounds_toArray, List.set_cons_zero, List.set_cons_succ, i64_w, i32_w]
   rfl
  refine pure_ (i := 18) (N := some 2) (v := ?_) (a' := ?_) #[true, true, true, true, true, true, true, true, true, true, true, true, true, true, true, true, true, true, true] rfl rfl (any_of HT_.out (by kernel_rfl)) (fun _ _ _ h => h) (Or.inl ⟨by rfl, ?_⟩) ?_ ?_
  rotate_left
  ·intro w'
   go_simp
   with_reducible rfl
  rotate_left
  ·simp only [Act.put, List.setIfInBounds_toArray, List.set_cons_zero, List.set_cons_succ, i64_w, i32_w]
   rfl
  refine done_ (done_of HT_.out (by kernel_rfl)) ?_
  try go_wp2
  go_ret
  exact ⟨by first | rfl, by repeat (first | (with_reducible first | exact HB.out))⟩
end Go.Proofs.YtielnphmcaecdaaDoor.PAll
