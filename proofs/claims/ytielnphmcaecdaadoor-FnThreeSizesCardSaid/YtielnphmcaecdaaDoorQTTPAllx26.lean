-- Written by a program of this session (wip/tools)
import Derived.Test.YtielnphmcaecdaaDoorQTTTreeMem
import Derived.Test.YtielnphmcaecdaaDoorQTTPAllx1
import Derived.Test.YtielnphmcaecdaaDoorQTTPAllx8
import Derived.Test.YtielnphmcaecdaaDoorQTTPAllx9
set_option maxHeartbeats 8000000
set_option maxRecDepth 100000
set_option linter.unusedVariables false
set_option linter.unusedSimpArgs false
namespace Go.Proofs.YtielnphmcaecdaaDoor.PAll
open Go.RowKit Go.Proofs.YtielnphmcaecdaaDoorW.PrintWords Go.Proofs.YtielnphmcaecdaaDoorW.PrintLast Go.Proofs.YtielnphmcaecdaaDoorW.PrintMore
attribute [local go_sem] max2_int min2_int max_two min_two max_three min_three max_four min_four   -- for this text's walks alone
attribute [local go_sem high] eqA49
def laws_growthNext.l0 : Nat → Int → List (S34) → Int → Int → Option (Bool)
 | 0, _, _, _, _ => none
 | k + 1, x3, x6, x7, x8 => if x8 < x7 then (if 0 ≤ x8 then (if x8 < (x6.length : Int) then ((laws_rangeFair.f k ((rd_T34 x6 x8).f0) ((rd_T34 x6 x8).f1) ((rd_T34 x6 x8).f2)).bind fun t822 => (if t822 = true then (if ((rd_T34 x6 x8).f0) = x3 then (laws_growthNext.l0 k ((rd_T34 x6 x8).f1) x6 x7 (wrap64 (x8 + 1))) else (some false)) else (some false))) else (none)) else (none)) else (some true)
def laws_growthNext.f (k : Nat) (l0 : List (S34)) : Option (Bool) := laws_growthNext.l0 k 0 l0 (l0.length : Int) 0
theorem laws_growthNext.calls (k : Nat) (A0 : Option Addr) (c0 : Nat) (l0 : List (S34)) (r : Bool) (w : World) (hr0 : Kd.C k34 w A0 l0.length l0) (hc0 : l0.length ≤ c0) (h : laws_growthNext.f k l0 = some r) :
 Calls Tryd.prog 40 #[.slice A0 l0.length c0] w fun e w' => e = .returned (.bool r) ∧ Below w.heap.size w w' := by
 have hu34 := Tryd.underlying34
 have HR0 := Aside0.mk hr0
 have HC0 := Aside0.mk hc0
 clear hr0 hc0
 have HB := Aside0.mk (Below.refl w.heap.size w)
 have H : (laws_growthNext.l0 k 0 l0 (l0.length : Int) 0) = some r := h
 clear h
 have H' := Aside0.mk H
 clear H
 go_enter Tryd.func40, Tryd.ntmps40
 go_wp2
 try simp only [Act.put, List.setIfInBounds_toArray, List.set_cons_zero, List.set_cons_succ]
 go_loopg [3, 8] k (fun kq v3 v8 w' => ∃ (x3_1 : Int) (x8_1 : Int), v3 = .int .u64 x3_1 ∧ v8 = .int .i64 x8_1 ∧ Aside0 (laws_growthNext.l0 kq x3_1 l0 (l0.length : Int) x8_1 = some r) ∧ Aside0 (kq ≤ k) ∧ Aside0 (Below w.heap.size w w'))
 case atStart => exact ⟨(0), (0), (by first | rfl), (by first | rfl), H', ⟨Nat.le_refl _⟩, ⟨by repeat (first | (with_reducible first | exact HB.out))⟩⟩
 case round =>
  clear H'
  obtain ⟨x3_1, x8_1, rfl, rfl, HA, HK1, HB⟩ := hrel
  cases gk with
  | zero => exact absurd HA.out (by simp [laws_growthNext.l0])
  | succ k1 =>
   have H := HA.out
   clear HA
   simp only [laws_growthNext.l0] at H
   by_cases c2 : x8_1 < (l0.length : Int)
   ·rw [if_pos c2] at H
    have c2b0 : decide (x8_1 < (l0.length : Int)) = true := decide_eq_true c2
    clear c2
    by_cases c3 : 0 ≤ x8_1
    ·rw [if_pos c3] at H
     have c3b0 : decide (0 ≤ x8_1) = true := decide_eq_true c3
     clear c3
     by_cases c4 : x8_1 < (l0.length : Int)
     ·rw [if_pos c4] at H
      have c4b0 : decide (x8_1 < (l0.length : Int)) = true := decide_eq_true c4
      clear c4
      replace H := Option.bind_eq_some_iff.mp H
      obtain ⟨t822, A50, H⟩ := H
      replace H : (if t822 = true then (if ((rd_T34 l0 x8_1).f0) = x3_1 then (laws_growthNext.l0 k1 ((rd_T34 l0 x8_1).f1) l0 (l0.length : Int) (wrap64 (x8_1 + 1))) else (some false)) else (some false)) = some r := H
      have A5 := Aside0.mk A50
      clear A50
      by_cases c6 : t822 = true
      ·subst c6
       have H1 : (if ((rd_T34 l0 x8_1).f0) = x3_1 then (laws_growthNext.l0 k1 ((rd_T34 l0 x8_1).f1) l0 (l0.length : Int) (wrap64 (x8_1 + 1))) else (some false)) = some r := by rw [if_pos rfl] at H; exact H
       clear H
       have H := H1
       clear H1
       by_cases c7 : ((rd_T34 l0 x8_1).f0) = x3_1
       ·rw [if_pos c7] at H
        have c7b0 : (((rd_T34 l0 x8_1).f0) == x3_1) = true := beq_iff_eq.mpr c7
        have c7b1 : (((rd_T34 l0 x8_1).f0) != x3_1) = false := bne_eq_false_iff_eq.mpr c7
        clear c7
        have H' := Aside0.mk H
        clear H
        have p820 : 0 ≤ (x8_1 : Int) := of_decide_eq_true (by first | (with_reducible assumption))
        have q820 : x8_1 < (l0.length : Int) := of_decide_eq_true (by first | (with_reducible assumption))
        obtain ⟨ad820, A820_2, c820_2, e820, hx820_0, hx820_1, hx820_2, hl820_2, hi820_2⟩ := at_T34 HR0.out x8_1 p820 q820
        cases e820
        replace hx820_0 := (HB.out.cell (World.block_lt_of_cell? w _ hx820_0)).trans hx820_0
        replace hx820_1 := (HB.out.cell (World.block_lt_of_cell? w _ hx820_1)).trans hx820_1
        replace hx820_2 := (HB.out.cell (World.block_lt_of_cell? w _ hx820_2)).trans hx820_2
        have HR820_2 := Aside0.mk hi820_2
        have HC820_2 := Aside0.mk hl820_2
        clear hi820_2 hl820_2
        replace p820 := eq_true p820
        replace q820 := eq_true q820
        go_wp2_with (first | ((with_reducible refine gate_dst (N := 5) rfl ?_); refine box_event ?hg (N := 5) ?hd (cs := #[.int .u64 0, .int .u64 0, .slice none 0 0]) (t := 34) ?hr ?_; (case hd => rfl); (case hg => rfl); (case hr => first | (go_simp; done)); intro gb821 hg w8 hbox hb; have n0_ := Aside0.mk (below_step (by repeat (first | (with_reducible first | exact HB.out))) hb); have n1_ := Aside0.mk (hbox); have n2_ := Aside0.mk ((by rw [hg]; exact (below_size (by repeat (first | (with_reducible first | exact HB.out)))) : w.heap.size ≤ gb821)); have n3_ := Aside0.mk ((by rw [hg]; exact (below_size (by repeat (first | (with_reducible first | exact HB.out)))) : w.heap.size ≤ gb821)); clear HB; have HB := n0_; have BK821 := n1_; have GW821 := n2_; have GE821 := n3_; clear n0_ n1_ n2_ n3_; clear hb hbox hg; have hcz9_0 : w8.cell? ⟨gb821, 0, none⟩ = some (.int .u64 0) := (blk_cell BK821.out 0).trans rfl; have hcz9_1 : w8.cell? ⟨gb821, 1, none⟩ = some (.int .u64 0) := (blk_cell BK821.out 1).trans rfl; have hcz9_2 : w8.cell? ⟨gb821, 2, none⟩ = some (.slice none 0 0) := (blk_cell BK821.out 2).trans rfl; have hfz9_0 := blk_frozen BK821.out 0; have hfz9_1 := blk_frozen BK821.out 1; have hfz9_2 := blk_frozen BK821.out 2) | ((with_reducible refine gate_callee (f := 18) rfl ?_); refine goesL_ (some 13) rfl rfl Tryd.func18 (by kernel_rfl) rfl #[.agg #[.int .u64 ((rd_T34 l0 x8_1).f0), .int .u64 ((rd_T34 l0 x8_1).f1), .slice A820_2 ((rd_T34 l0 x8_1).f2).length c820_2]] rfl (by (try simp only [List.map_toArray, List.map_cons, List.map_nil]); first | rfl) ?_; (with_reducible refine (laws_rangeFair.calls k1 ((rd_T34 l0 x8_1).f0) ((rd_T34 l0 x8_1).f1) _ _ ((rd_T34 l0 x8_1).f2) true _ ?side1 ?side2 A5.out).mono ?_); (case side1 => exact Kd.C_below HR820_2.out (by repeat (first | (with_reducible first | exact HB.out | refine below_set ?_ GE821.out)))); (case side2 => exact HC820_2.out); rintro e w10 ⟨rfl, hb⟩; refine ⟨_, rfl, ?_⟩; have n0_ := Aside0.mk (blk_below (g := gb821) (o := .cells #[.int .u64 ((rd_T34 l0 x8_1).f0), .int .u64 ((rd_T34 l0 x8_1).f1), .slice A820_2 ((rd_T34 l0 x8_1).f2).length c820_2] 34 (0, 0)) (by refine blk_put (cs := #[.int .u64 ((rd_T34 l0 x8_1).f0), .int .u64 ((rd_T34 l0 x8_1).f1), .slice none 0 0]) ?_ 2 _ rfl; refine blk_put (cs := #[.int .u64 ((rd_T34 l0 x8_1).f0), .int .u64 0, .slice none 0 0]) ?_ 1 _ rfl; refine blk_put (cs := #[.int .u64 0, .int .u64 0, .slice none 0 0]) ?_ 0 _ rfl; exact BK821.out) hb); have n1_ := Aside0.mk (below_step (by repeat (first | (with_reducible first | exact HB.out | refine below_set ?_ GE821.out))) hb); clear BK821; clear HB; have BK821 := n0_; have HB := n1_; clear n0_ n1_; (try clear hb); (try clear hb2); (try clear hk); (try clear hi); have hcz11_0 : w10.cell? ⟨gb821, 0, none⟩ = some (.int .u64 ((rd_T34 l0 x8_1).f0)) := (blk_cell BK821.out 0).trans rfl; have hcz11_1 : w10.cell? ⟨gb821, 1, none⟩ = some (.int .u64 ((rd_T34 l0 x8_1).f1)) := (blk_cell BK821.out 1).trans rfl; have hcz11_2 : w10.cell? ⟨gb821, 2, none⟩ = some (.slice A820_2 ((rd_T34 l0 x8_1).f2).length c820_2) := (blk_cell BK821.out 2).trans rfl; have hfz11_0 := blk_frozen BK821.out 0; have hfz11_1 := blk_frozen BK821.out 1; have hfz11_2 := blk_frozen BK821.out 2))
        go_roundg k1
        case measure => have := HK1.out; omega
        case rel => exact ⟨((rd_T34 l0 x8_1).f1), (wrap64 (x8_1 + 1)), (by first | rfl), (by first | rfl), H', ⟨by have := HK1.out; omega⟩, ⟨by repeat (first | (with_reducible first | exact HB.out))⟩⟩
       ·rw [if_neg c7] at H
        have c7b0 : (((rd_T34 l0 x8_1).f0) == x3_1) = false := beq_eq_false_iff_ne.mpr c7
        have c7b1 : (((rd_T34 l0 x8_1).f0) != x3_1) = true := bne_iff_ne.mpr c7
        obtain rfl := Option.some.inj H
        have p820 : 0 ≤ (x8_1 : Int) := of_decide_eq_true (by first | (with_reducible assumption))
        have q820 : x8_1 < (l0.length : Int) := of_decide_eq_true (by first | (with_reducible assumption))
        obtain ⟨ad820, A820_2, c820_2, e820, hx820_0, hx820_1, hx820_2, hl820_2, hi820_2⟩ := at_T34 HR0.out x8_1 p820 q820
        cases e820
        replace hx820_0 := (HB.out.cell (World.block_lt_of_cell? w _ hx820_0)).trans hx820_0
        replace hx820_1 := (HB.out.cell (World.block_lt_of_cell? w _ hx820_1)).trans hx820_1
        replace hx820_2 := (HB.out.cell (World.block_lt_of_cell? w _ hx820_2)).trans hx820_2
        have HR820_2 := Aside0.mk hi820_2
        have HC820_2 := Aside0.mk hl820_2
        clear hi820_2 hl820_2
        replace p820 := eq_true p820
        replace q820 := eq_true q820
        go_wp2_with (first | ((with_reducible refine gate_dst (N := 5) rfl ?_); refine box_event ?hg (N := 5) ?hd (cs := #[.int .u64 0, .int .u64 0, .slice none 0 0]) (t := 34) ?hr ?_; (case hd => rfl); (case hg => rfl); (case hr => first | (go_simp; done)); intro gb821 hg w12 hbox hb; have n0_ := Aside0.mk (below_step (by repeat (first | (with_reducible first | exact HB.out))) hb); have n1_ := Aside0.mk (hbox); have n2_ := Aside0.mk ((by rw [hg]; exact (below_size (by repeat (first | (with_reducible first | exact HB.out)))) : w.heap.size ≤ gb821)); have n3_ := Aside0.mk ((by rw [hg]; exact (below_size (by repeat (first | (with_reducible first | exact HB.out)))) : w.heap.size ≤ gb821)); clear HB; have HB := n0_; have BK821 := n1_; have GW821 := n2_; have GE821 := n3_; clear n0_ n1_ n2_ n3_; clear hb hbox hg; have hcz13_0 : w12.cell? ⟨gb821, 0, none⟩ = some (.int .u64 0) := (blk_cell BK821.out 0).trans rfl; have hcz13_1 : w12.cell? ⟨gb821, 1, none⟩ = some (.int .u64 0) := (blk_cell BK821.out 1).trans rfl; have hcz13_2 : w12.cell? ⟨gb821, 2, none⟩ = some (.slice none 0 0) := (blk_cell BK821.out 2).trans rfl; have hfz13_0 := blk_frozen BK821.out 0; have hfz13_1 := blk_frozen BK821.out 1; have hfz13_2 := blk_frozen BK821.out 2) | ((with_reducible refine gate_callee (f := 18) rfl ?_); refine goesL_ (some 13) rfl rfl Tryd.func18 (by kernel_rfl) rfl #[.agg #[.int .u64 ((rd_T34 l0 x8_1).f0), .int .u64 ((rd_T34 l0 x8_1).f1), .slice A820_2 ((rd_T34 l0 x8_1).f2).length c820_2]] rfl (by (try simp only [List.map_toArray, List.map_cons, List.map_nil]); first | rfl) ?_; (with_reducible refine (laws_rangeFair.calls k1 ((rd_T34 l0 x8_1).f0) ((rd_T34 l0 x8_1).f1) _ _ ((rd_T34 l0 x8_1).f2) true _ ?side1 ?side2 A5.out).mono ?_); (case side1 => exact Kd.C_below HR820_2.out (by repeat (first | (with_reducible first | exact HB.out | refine below_set ?_ GE821.out)))); (case side2 => exact HC820_2.out); rintro e w14 ⟨rfl, hb⟩; refine ⟨_, rfl, ?_⟩; have n0_ := Aside0.mk (blk_below (g := gb821) (o := .cells #[.int .u64 ((rd_T34 l0 x8_1).f0), .int .u64 ((rd_T34 l0 x8_1).f1), .slice A820_2 ((rd_T34 l0 x8_1).f2).length c820_2] 34 (0, 0)) (by refine blk_put (cs := #[.int .u64 ((rd_T34 l0 x8_1).f0), .int .u64 ((rd_T34 l0 x8_1).f1), .slice none 0 0]) ?_ 2 _ rfl; refine blk_put (cs := #[.int .u64 ((rd_T34 l0 x8_1).f0), .int .u64 0, .slice none 0 0]) ?_ 1 _ rfl; refine blk_put (cs := #[.int .u64 0, .int .u64 0, .slice none 0 0]) ?_ 0 _ rfl; exact BK821.out) hb); have n1_ := Aside0.mk (below_step (by repeat (first | (with_reducible first | exact HB.out | refine below_set ?_ GE821.out))) hb); clear BK821; clear HB; have BK821 := n0_; have HB := n1_; clear n0_ n1_; (try clear hb); (try clear hb2); (try clear hk); (try clear hi); have hcz15_0 : w14.cell? ⟨gb821, 0, none⟩ = some (.int .u64 ((rd_T34 l0 x8_1).f0)) := (blk_cell BK821.out 0).trans rfl; have hcz15_1 : w14.cell? ⟨gb821, 1, none⟩ = some (.int .u64 ((rd_T34 l0 x8_1).f1)) := (blk_cell BK821.out 1).trans rfl; have hcz15_2 : w14.cell? ⟨gb821, 2, none⟩ = some (.slice A820_2 ((rd_T34 l0 x8_1).f2).length c820_2) := (blk_cell BK821.out 2).trans rfl; have hfz15_0 := blk_frozen BK821.out 0; have hfz15_1 := blk_frozen BK821.out 1; have hfz15_2 := blk_frozen BK821.out 2))
        go_ret
        exact ⟨by first | rfl, by repeat (first | (with_reducible first | exact HB.out))⟩
      ·replace c6 := Bool.eq_false_iff.mpr c6
       subst c6
       have H1 : (some false) = some r := by rw [if_neg (show ¬ (false = true) by decide)] at H; exact H
       clear H
       have H := H1
       clear H1
       obtain rfl := Option.some.inj H
       have p820 : 0 ≤ (x8_1 : Int) := of_decide_eq_true (by first | (with_reducible assumption))
       have q820 : x8_1 < (l0.length : Int) := of_decide_eq_true (by first | (with_reducible assumption))
       obtain ⟨ad820, A820_2, c820_2, e820, hx820_0, hx820_1, hx820_2, hl820_2, hi820_2⟩ := at_T34 HR0.out x8_1 p820 q820
       cases e820
       replace hx820_0 := (HB.out.cell (World.block_lt_of_cell? w _ hx820_0)).trans hx820_0
       replace hx820_1 := (HB.out.cell (World.block_lt_of_cell? w _ hx820_1)).trans hx820_1
       replace hx820_2 := (HB.out.cell (World.block_lt_of_cell? w _ hx820_2)).trans hx820_2
       have HR820_2 := Aside0.mk hi820_2
       have HC820_2 := Aside0.mk hl820_2
       clear hi820_2 hl820_2
       replace p820 := eq_true p820
       replace q820 := eq_true q820
       go_wp2_with (first | ((with_reducible refine gate_dst (N := 5) rfl ?_); refine box_event ?hg (N := 5) ?hd (cs := #[.int .u64 0, .int .u64 0, .slice none 0 0]) (t := 34) ?hr ?_; (case hd => rfl); (case hg => rfl); (case hr => first | (go_simp; done)); intro gb821 hg w16 hbox hb; have n0_ := Aside0.mk (below_step (by repeat (first | (with_reducible first | exact HB.out))) hb); have n1_ := Aside0.mk (hbox); have n2_ := Aside0.mk ((by rw [hg]; exact (below_size (by repeat (first | (with_reducible first | exact HB.out)))) : w.heap.size ≤ gb821)); have n3_ := Aside0.mk ((by rw [hg]; exact (below_size (by repeat (first | (with_reducible first | exact HB.out)))) : w.heap.size ≤ gb821)); clear HB; have HB := n0_; have BK821 := n1_; have GW821 := n2_; have GE821 := n3_; clear n0_ n1_ n2_ n3_; clear hb hbox hg; have hcz17_0 : w16.cell? ⟨gb821, 0, none⟩ = some (.int .u64 0) := (blk_cell BK821.out 0).trans rfl; have hcz17_1 : w16.cell? ⟨gb821, 1, none⟩ = some (.int .u64 0) := (blk_cell BK821.out 1).trans rfl; have hcz17_2 : w16.cell? ⟨gb821, 2, none⟩ = some (.slice none 0 0) := (blk_cell BK821.out 2).trans rfl; have hfz17_0 := blk_frozen BK821.out 0; have hfz17_1 := blk_frozen BK821.out 1; have hfz17_2 := blk_frozen BK821.out 2) | ((with_reducible refine gate_callee (f := 18) rfl ?_); refine goesL_ (some 13) rfl rfl Tryd.func18 (by kernel_rfl) rfl #[.agg #[.int .u64 ((rd_T34 l0 x8_1).f0), .int .u64 ((rd_T34 l0 x8_1).f1), .slice A820_2 ((rd_T34 l0 x8_1).f2).length c820_2]] rfl (by (try simp only [List.map_toArray, List.map_cons, List.map_nil]); first | rfl) ?_; (with_reducible refine (laws_rangeFair.calls k1 ((rd_T34 l0 x8_1).f0) ((rd_T34 l0 x8_1).f1) _ _ ((rd_T34 l0 x8_1).f2) false _ ?side1 ?side2 A5.out).mono ?_); (case side1 => exact Kd.C_below HR820_2.out (by repeat (first | (with_reducible first | exact HB.out | refine below_set ?_ GE821.out)))); (case side2 => exact HC820_2.out); rintro e w18 ⟨rfl, hb⟩; refine ⟨_, rfl, ?_⟩; have n0_ := Aside0.mk (blk_below (g := gb821) (o := .cells #[.int .u64 ((rd_T34 l0 x8_1).f0), .int .u64 ((rd_T34 l0 x8_1).f1), .slice A820_2 ((rd_T34 l0 x8_1).f2).length c820_2] 34 (0, 0)) (by refine blk_put (cs := #[.int .u64 ((rd_T34 l0 x8_1).f0), .int .u64 ((rd_T34 l0 x8_1).f1), .slice none 0 0]) ?_ 2 _ rfl; refine blk_put (cs := #[.int .u64 ((rd_T34 l0 x8_1).f0), .int .u64 0, .slice none 0 0]) ?_ 1 _ rfl; refine blk_put (cs := #[.int .u64 0, .int .u64 0, .slice none 0 0]) ?_ 0 _ rfl; exact BK821.out) hb); have n1_ := Aside0.mk (below_step (by repeat (first | (with_reducible first | exact HB.out | refine below_set ?_ GE821.out))) hb); clear BK821; clear HB; have BK821 := n0_; have HB := n1_; clear n0_ n1_; (try clear hb); (try clear hb2); (try clear hk); (try clear hi)))
       go_ret
       exact ⟨by first | rfl, by repeat (first | (with_reducible first | exact HB.out))⟩
     ·rw [if_neg c4] at H
      exact absurd H (by simp)
    ·rw [if_neg c3] at H
     exact absurd H (by simp)
   ·rw [if_neg c2] at H
    have c2b0 : decide (x8_1 < (l0.length : Int)) = false := decide_eq_false c2
    clear c2
    obtain rfl := Option.some.inj H
    go_wp2
    go_ret
    exact ⟨by first | rfl, by repeat (first | (with_reducible first | exact HB.out))⟩
mutual
def laws_growthHashes.l0 : Nat → List (S49) → List (S51) → List (S34) → Int → Int → Option ((List (List Int)) × Bool)
 | 0, _, _, _, _, _ => none
 | k + 1, x0, x6, x15, x16, x17 => if x17 < x16 then (if 0 ≤ x17 then (if x17 < (x15.length : Int) then ((spec_Named.f k ((rd_T34 x15 x17).f0) ((rd_T34 x15 x17).f1) ((rd_T34 x15 x17).f2)).bind fun t852 => (if x6.length + t852.length < 3518437208883 then (laws_growthHashes.l0 k x0 (x6 ++ t852) x15 x16 (wrap64 (x17 + 1))) else (none))) else (none)) else (none)) else (laws_growthHashes.l1 k x6 ([] : List (List Int)) x0 (x0.length : Int) 0)
def laws_growthHashes.l1 : Nat → List (S51) → List (List Int) → List (S49) → Int → Int → Option ((List (List Int)) × Bool)
 | 0, _, _, _, _, _ => none
 | k + 1, x6, x9, x26, x27, x28 => if x28 < x27 then (if 0 ≤ x28 then (if x28 < (x26.length : Int) then (laws_growthHashes.l2 k x6 x9 false x26 x27 x28 x6 (x6.length : Int) 0 ((rd_T49 x26 x28).f0) ((rd_T49 x26 x28).f1)) else (none)) else (none)) else (some (x9, true))
def laws_growthHashes.l2 : Nat → List (S51) → List (List Int) → Bool → List (S49) → Int → Int → List (S51) → Int → Int → Int → Int → Option ((List (List Int)) × Bool)
 | 0, _, _, _, _, _, _, _, _, _, _, _ => none
 | k + 1, x6, x9, x12, x26, x27, x28, x32, x33, x34, x860000, x860001 => if x34 < x33 then (if 0 ≤ x34 then (if x34 < (x32.length : Int) then (if (((rd_T51 x32 x34).f0.f0) == x860000 && (((rd_T51 x32 x34).f0.f1) == x860001)) = true then (if x12 = true then (laws_growthHashes.l2 k x6 x9 x12 x26 x27 x28 x32 x33 (wrap64 (x34 + 1)) x860000 x860001) else ((some (([] : List Int) : List Int)).bind fun y862 => (if y862.length + ((rd_T51 x32 x34).f1).length < 140737488355328 then (if x9.length < 5864062014805 then (laws_growthHashes.l2 k x6 (x9 ++ [(y862 ++ ((rd_T51 x32 x34).f1))]) true x26 x27 x28 x32 x33 (wrap64 (x34 + 1)) x860000 x860001) else (none)) else (none)))) else (laws_growthHashes.l2 k x6 x9 x12 x26 x27 x28 x32 x33 (wrap64 (x34 + 1)) x860000 x860001)) else (none)) else (none)) else (if x12 = true then (laws_growthHashes.l1 k x6 x9 x26 x27 (wrap64 (x28 + 1))) else (some (([] : List (List Int)), false)))
end
def laws_growthHashes.f (k : Nat) (l0 : List (S49)) (l1 : List (S34)) : Option ((List (List Int)) × Bool) := laws_growthHashes.l0 k l0 ([] : List (S51)) l1 (l1.length : Int) 0
theorem laws_growthHashes.calls (k : Nat) (A0 : Option Addr) (c0 : Nat) (l0 : List (S49)) (P1_ : Nat → Prop) (A1 : Option Addr) (c1 : Nat) (l1 : List (S34)) (r1 : List (List Int)) (r2 : Bool) (w : World) (hr0 : Kd.C k49 w A0 l0.length l0) (hc0 : l0.length ≤ c0) (hs1 : Kd.V k34 34 w w.heap.size (fun k_ => P1_ k_) (.slice A1 l1.length c1) l1) (h : laws_growthHashes.f k l0 l1 = some (r1, r2)) :
 Calls Tryd.prog 80 #[.slice A0 l0.length c0, .slice A1 l1.length c1] w fun e w' => ∃ v0_ : Value, e = .returned (.tuple #[v0_, .bool r2]) ∧ Kd.N (Kd.slice 5 (Kd.int .u8)) 27 w' w.heap.size (fun k_ => (P1_ k_ ∨ w.heap.size ≤ k_)) v0_ r1 ∧ Below w.heap.size w w' := by
 have hu34 := Tryd.underlying34
 have hu49 := Tryd.underlying49
 have hu51 := Tryd.underlying51
 have HR0 := Aside0.mk hr0
 have HC0 := Aside0.mk hc0
 clear hr0 hc0
 have HO1 := Aside0.mk (show Kd.V k34 34 w w.heap.size (fun k_ => (P1_ k_ ∨ w.heap.size ≤ k_)) (.slice A1 l1.length c1) l1 from Kd.V_mono hs1 (fun k_ hk => .inl hk))
 have HB := Aside0.mk (Below.refl w.heap.size w)
 have H : (laws_growthHashes.l0 k l0 ([] : List (S51)) l1 (l1.length : Int) 0) = some (r1, r2) := h
 clear h
 have H' := Aside0.mk H
 clear H
 go_enter Tryd.func80, Tryd.ntmps80
 go_wp2
 try simp only [Act.put, List.setIfInBounds_toArray, List.set_cons_zero, List.set_cons_succ]
 go_loopg [6, 17] k (fun kq v6 v17 w' => ∃ (x6_1 : List (S51)) (x17_1 : Int), v17 = .int .i64 x17_1 ∧ Aside0 (laws_growthHashes.l0 kq l0 x6_1 l1 (l1.length : Int) x17_1 = some (r1, r2)) ∧ Aside0 (kq ≤ k) ∧ Aside0 (Kd.N k51 51 w' w.heap.size (fun k_ => (P1_ k_ ∨ w.heap.size ≤ k_)) v6 x6_1) ∧ Aside0 (Kd.V k34 34 w' w.heap.size (fun k_ => (P1_ k_ ∨ w.heap.size ≤ k_) ∧ some k_ ≠ (v6 : Value).ownBlock) (.slice A1 l1.length c1) l1) ∧ Aside0 (Below w.heap.size w w'))
 case atStart => exact ⟨(([] : List (S51))), (0), (by first | rfl), H', ⟨Nat.le_refl _⟩, ⟨by first | exact Kd.N_nil _ _ _ _ _⟩, ⟨by exact Kd.V_mono HO1.out (fun _ hk => ⟨hk, (by simp [Value.ownBlock])⟩)⟩, ⟨by repeat (first | (with_reducible first | exact HB.out))⟩⟩
 case round =>
  clear H'
  try clear c1
  try clear p2
  obtain ⟨x6_1, x17_1, rfl, HA, HK1, HO_6, HO_15, HB⟩ := hrel
  cases gk with
  | zero => exact absurd HA.out (by simp [laws_growthHashes.l0])
  | succ k1 =>
   have H := HA.out
   clear HA
   simp only [laws_growthHashes.l0] at H
   by_cases c3 : x17_1 < (l1.length : Int)
   ·rw [if_pos c3] at H
    have c3b0 : decide (x17_1 < (l1.length : Int)) = true := decide_eq_true c3
    clear c3
    by_cases c4 : 0 ≤ x17_1
    ·rw [if_pos c4] at H
     have c4b0 : decide (0 ≤ x17_1) = true := decide_eq_true c4
     clear c4
     by_cases c5 : x17_1 < (l1.length : Int)
     ·rw [if_pos c5] at H
      have c5b0 : decide (x17_1 < (l1.length : Int)) = true := decide_eq_true c5
      clear c5
      replace H := Option.bind_eq_some_iff.mp H
      obtain ⟨t852, A60, H⟩ := H
      replace H : (if x6_1.length + t852.length < 3518437208883 then (laws_growthHashes.l0 k1 l0 (x6_1 ++ t852) l1 (l1.length : Int) (wrap64 (x17_1 + 1))) else (none)) = some (r1, r2) := H
      have A6 := Aside0.mk A60
      clear A60
      by_cases c7 : x6_1.length + t852.length < 3518437208883
      ·rw [if_pos c7] at H
       have LMc7 := Aside0.mk c7
       clear c7
       obtain ⟨y855, hy855⟩ : ∃ y_ : List (S51), y_ = (x6_1 ++ t852) := ⟨_, rfl⟩
       replace H : (laws_growthHashes.l0 k1 l0 y855 l1 (l1.length : Int) (wrap64 (x17_1 + 1))) = some (r1, r2) := by first | (rw [hy855]; with_reducible exact H)
       have Ny855 := Aside0.mk hy855
       clear hy855
       have H' := Aside0.mk H
       clear H
       have p850 : 0 ≤ (x17_1 : Int) := of_decide_eq_true (by first | (with_reducible assumption))
       have q850 : x17_1 < (l1.length : Int) := of_decide_eq_true (by first | (with_reducible assumption))
       obtain ⟨ad850, A850_2, c850_2, e850, hx850_0, hx850_1, hx850_2, hl850_2, hi850_2⟩ := at_T34 (Kd.V_reads' HO_15.out).2.2 x17_1 p850 q850
       cases e850
       obtain ⟨ce850, hce850, hMe850, hcc850⟩ := Kd.V_get HO_15.out z34 x17_1 p850 (by first | exact q850)
       obtain ⟨ua850_2, uc850_2, rfl, ul850_2, ge850_2⟩ := k34_openF hMe850
       have hv850_2 := hcc850 2 _ rfl
       rw [add_field _ _ 2 (by omega)] at hv850_2
       replace hv850_2 := Option.some.inj (hv850_2.symm.trans hx850_2)
       injection hv850_2 with hva_ hvn_ hvc_
       rw [hva_] at ge850_2
       rw [hvc_] at ul850_2
       have HL850_2 := Aside0.mk (show Kd.V (Kd.slice 5 (Kd.int .u8)) 27 _ w.heap.size _ _ ((rd_T34 l1 x17_1).f2) from Kd.V_mk ul850_2 ge850_2)
       clear hva_ hvn_ hvc_ ge850_2 ul850_2
       clear hcc850 hce850
       have HR850_2 := Aside0.mk hi850_2
       have HC850_2 := Aside0.mk hl850_2
       clear hi850_2 hl850_2
       replace p850 := eq_true p850
       replace q850 := eq_true q850
       go_wp2_with (first | ((with_reducible refine gate_dst (N := 8) rfl ?_); refine box_event ?hg (N := 8) ?hd (cs := #[.int .u64 0, .int .u64 0, .slice none 0 0]) (t := 34) ?hr ?_; (case hd => rfl); (case hg => rfl); (case hr => first | (go_simp; done)); intro gb851 hg w8 hbox hb; have n0_ := Aside0.mk (Kd.N_below (Kd.N_elderB (by exact HO_6.out) gb851 (Nat.le_of_eq hg.symm)) hb); have n1_ := Aside0.mk (Kd.V_below (Kd.V_elderB (by exact HO_15.out) gb851 (Nat.le_of_eq hg.symm)) hb); have n2_ := Aside0.mk (Kd.V_below (Kd.V_elderB (by exact HL850_2.out) gb851 (Nat.le_of_eq hg.symm)) hb); have n3_ := Aside0.mk trivial; have n4_ := Aside0.mk (below_step (by repeat (first | (with_reducible first | exact HB.out))) hb); have n5_ := Aside0.mk (hbox); have n6_ := Aside0.mk ((by rw [hg]; exact (below_size (by repeat (first | (with_reducible first | exact HB.out)))) : w.heap.size ≤ gb851)); have n7_ := Aside0.mk ((by rw [hg]; exact (below_size (by repeat (first | (with_reducible first | exact HB.out)))) : w.heap.size ≤ gb851)); clear HO_6; clear HO_15; clear HL850_2; clear HR850_2; clear HB; have HO_6 := n0_; have HO_15 := n1_; have HL850_2 := n2_; have HR850_2 := n3_; have HB := n4_; have BK851 := n5_; have GW851 := n6_; have GE851 := n7_; clear n0_ n1_ n2_ n3_ n4_ n5_ n6_ n7_; clear hb hbox hg; have hcz9_0 : w8.cell? ⟨gb851, 0, none⟩ = some (.int .u64 0) := (blk_cell BK851.out 0).trans rfl; have hcz9_1 : w8.cell? ⟨gb851, 1, none⟩ = some (.int .u64 0) := (blk_cell BK851.out 1).trans rfl; have hcz9_2 : w8.cell? ⟨gb851, 2, none⟩ = some (.slice none 0 0) := (blk_cell BK851.out 2).trans rfl; have hfz9_0 := blk_frozen BK851.out 0; have hfz9_1 := blk_frozen BK851.out 1; have hfz9_2 := blk_frozen BK851.out 2) | ((with_reducible refine gate_store (t := 34) (p := 8) rfl ?_); refine store_event (t := 34) (p := 8) (v := ?vo_w10) (w1 := (((w8.setCell ⟨gb851, 0, none⟩ (.int .u64 ((rd_T34 l1 x17_1).f0))).setCell ⟨gb851, 1, none⟩ (.int .u64 ((rd_T34 l1 x17_1).f1))).setCell ⟨gb851, 2, none⟩ (.slice A850_2 ((rd_T34 l1 x17_1).f2).length c850_2))) ?hg ?ho ?hn ?hr ?_; (case ho => rfl); (case hg => rfl); (case hn => rfl); (case hr => first | (go_simp; done)); intro w10 hw; have n0_ : Aside0 (Kd.N k51 51 w10 w.heap.size (fun k_ => (P1_ k_ ∨ w.heap.size ≤ k_) ∧ k_ ≠ gb851) u6 x6_1) := ⟨(by rw [hw]; exact (by exact Kd.N_mono (Kd.N_far (p := ⟨gb851, 2, none⟩) (Kd.N_far (p := ⟨gb851, 1, none⟩) (Kd.N_far (p := ⟨gb851, 0, none⟩) (Kd.N_mono HO_6.out (fun k_ hk => (⟨hk, hk.2⟩ : _ ∧ k_ ≠ gb851))) (fun _ hk => hk.2) (.int .u64 ((rd_T34 l1 x17_1).f0))) (fun _ hk => hk.2) (.int .u64 ((rd_T34 l1 x17_1).f1))) (fun _ hk => hk.2) (.slice A850_2 ((rd_T34 l1 x17_1).f2).length c850_2)) (fun _ hk => ⟨hk.1.1, hk.1.2⟩)))⟩; have n1_ : Aside0 (Kd.V k34 34 w10 w.heap.size (fun k_ => (P1_ k_ ∨ w.heap.size ≤ k_) ∧ some k_ ≠ (u6 : Value).ownBlock ∧ k_ ≠ gb851) (.slice (some ad850) l1.length c1) l1) := ⟨(by rw [hw]; exact (by exact Kd.V_mono (Kd.V_far (p := ⟨gb851, 2, none⟩) (Kd.V_far (p := ⟨gb851, 1, none⟩) (Kd.V_far (p := ⟨gb851, 0, none⟩) (Kd.V_mono HO_15.out (fun k_ hk => (⟨hk, hk.2⟩ : _ ∧ k_ ≠ gb851))) (fun _ hk => hk.2) (.int .u64 ((rd_T34 l1 x17_1).f0))) (fun _ hk => hk.2) (.int .u64 ((rd_T34 l1 x17_1).f1))) (fun _ hk => hk.2) (.slice A850_2 ((rd_T34 l1 x17_1).f2).length c850_2)) (fun _ hk => ⟨hk.1.1.1, ⟨hk.1.1.2, hk.1.2⟩⟩)))⟩; have n2_ : Aside0 (Kd.V (Kd.slice 5 (Kd.int .u8)) 27 w10 w.heap.size (fun k_ => (P1_ k_ ∨ w.heap.size ≤ k_) ∧ some k_ ≠ (u6 : Value).ownBlock ∧ k_ ≠ gb851) (.slice A850_2 ((rd_T34 l1 x17_1).f2).length c850_2) ((rd_T34 l1 x17_1).f2)) := ⟨(by rw [hw]; exact (by exact Kd.V_mono (Kd.V_far (p := ⟨gb851, 2, none⟩) (Kd.V_far (p := ⟨gb851, 1, none⟩) (Kd.V_far (p := ⟨gb851, 0, none⟩) (Kd.V_mono HL850_2.out (fun k_ hk => (⟨hk, hk.2⟩ : _ ∧ k_ ≠ gb851))) (fun _ hk => hk.2) (.int .u64 ((rd_T34 l1 x17_1).f0))) (fun _ hk => hk.2) (.int .u64 ((rd_T34 l1 x17_1).f1))) (fun _ hk => hk.2) (.slice A850_2 ((rd_T34 l1 x17_1).f2).length c850_2)) (fun _ hk => ⟨hk.1.1.1, ⟨hk.1.1.2, hk.1.2⟩⟩)))⟩; have n3_ : Aside0 (w10.heap[gb851]? = some (.cells #[.int .u64 ((rd_T34 l1 x17_1).f0), .int .u64 ((rd_T34 l1 x17_1).f1), .slice A850_2 ((rd_T34 l1 x17_1).f2).length c850_2] 34 (0, 0))) := ⟨(by rw [hw]; exact (by refine blk_put (cs := #[.int .u64 ((rd_T34 l1 x17_1).f0), .int .u64 ((rd_T34 l1 x17_1).f1), .slice none 0 0]) ?_ 2 _ rfl; refine blk_put (cs := #[.int .u64 ((rd_T34 l1 x17_1).f0), .int .u64 0, .slice none 0 0]) ?_ 1 _ rfl; refine blk_put (cs := #[.int .u64 0, .int .u64 0, .slice none 0 0]) ?_ 0 _ rfl; exact BK851.out))⟩; have n4_ : Aside0 (Below w.heap.size w w10) := ⟨(by rw [hw]; exact (by repeat (first | (with_reducible first | exact HB.out | refine below_set ?_ GE851.out))))⟩; clear hw; clear HO_6; clear HO_15; clear HL850_2; clear BK851; clear HB; have HO_6 := n0_; have HO_15 := n1_; have HL850_2 := n2_; have BK851 := n3_; have HB := n4_; clear n0_ n1_ n2_ n3_ n4_; have hcz11_0 : w10.cell? ⟨gb851, 0, none⟩ = some (.int .u64 ((rd_T34 l1 x17_1).f0)) := (blk_cell BK851.out 0).trans rfl; have hcz11_1 : w10.cell? ⟨gb851, 1, none⟩ = some (.int .u64 ((rd_T34 l1 x17_1).f1)) := (blk_cell BK851.out 1).trans rfl; have hcz11_2 : w10.cell? ⟨gb851, 2, none⟩ = some (.slice A850_2 ((rd_T34 l1 x17_1).f2).length c850_2) := (blk_cell BK851.out 2).trans rfl; have hfz11_0 := blk_frozen BK851.out 0; have hfz11_1 := blk_frozen BK851.out 1; have hfz11_2 := blk_frozen BK851.out 2) | ((with_reducible refine gate_callee (f := 56) rfl ?_); refine goesL_ (some 23) rfl rfl Tryd.func56 (by kernel_rfl) rfl #[.agg #[.int .u64 ((rd_T34 l1 x17_1).f0), .int .u64 ((rd_T34 l1 x17_1).f1), .slice A850_2 ((rd_T34 l1 x17_1).f2).length c850_2]] rfl (by (try simp only [List.map_toArray, List.map_cons, List.map_nil]); first | rfl) ?_; (with_reducible refine (spec_Named.calls k1 ((rd_T34 l1 x17_1).f0) ((rd_T34 l1 x17_1).f1) (fun k_ => ((P1_ k_ ∨ w.heap.size ≤ k_) ∧ (some k_ ≠ (u6 : Value).ownBlock ∧ k_ ≠ gb851))) _ _ ((rd_T34 l1 x17_1).f2) t852 _ ?side1 A6.out).mono ?_); (case side1 => exact HL850_2.out); rintro e w12 ⟨v853, rfl, ho0, hb⟩; refine ⟨_, rfl, ?_⟩; have n0_ := Aside0.mk (Kd.N_elder' (by exact HO_6.out) (Kd.N_base ho0) hb); have n1_ := Aside0.mk (Kd.V_elder' (by exact HO_15.out) (Kd.N_base ho0) hb); have n2_ := Aside0.mk (Kd.V_elder' (by exact HL850_2.out) (Kd.N_base ho0) hb); have n3_ := Aside0.mk (Kd.N_lower (Kd.N_mono (ok' := fun k_ => (P1_ k_ ∨ w.heap.size ≤ k_) ∧ some k_ ≠ (u6 : Value).ownBlock ∧ k_ ≠ gb851) ho0 (fun k_ hk_ => ⟨Or.elim hk_ (fun hs_ => hs_.1) (fun hn_ => (.inr (Nat.le_trans (below_size (by repeat (first | (with_reducible first | exact HB.out)))) hn_))), Or.elim hk_ (fun hs_ => hs_.2.1) (fun hn_ => (Kd.fresh' (Kd.N_lt (by exact HO_6.out)) k_ hn_)), Or.elim hk_ (fun hs_ => hs_.2.2) (fun hn_ => (Kd.freshB (g := gb851) (o := .cells #[.int .u64 ((rd_T34 l1 x17_1).f0), .int .u64 ((rd_T34 l1 x17_1).f1), .slice A850_2 ((rd_T34 l1 x17_1).f2).length c850_2] 34 (0, 0)) (by exact BK851.out) k_ hn_))⟩)) (below_size (by repeat (first | (with_reducible first | exact HB.out))))); have n4_ := Aside0.mk trivial; have n5_ := Aside0.mk (blk_below (g := gb851) (o := .cells #[.int .u64 ((rd_T34 l1 x17_1).f0), .int .u64 ((rd_T34 l1 x17_1).f1), .slice A850_2 ((rd_T34 l1 x17_1).f2).length c850_2] 34 (0, 0)) (by exact BK851.out) hb); have n6_ := Aside0.mk (below_step (by repeat (first | (with_reducible first | exact HB.out))) hb); clear HO_6; clear HO_15; clear HL850_2; clear HR850_2; clear BK851; clear HB; have HO_6 := n0_; have HO_15 := n1_; have HL850_2 := n2_; have HO854 := n3_; have HR850_2 := n4_; have BK851 := n5_; have HB := n6_; clear n0_ n1_ n2_ n3_ n4_ n5_ n6_; (try clear hb); (try clear hb2); (try clear hk); (try clear hi); (try clear ho0); obtain ⟨Ao14, co14, eo14⟩ := Kd.N_slice HO854.out; subst eo14) | ((with_reducible refine gate_builtin (b := .append) (xs := #[.tmp 21, .tmp 23]) rfl ?_); at_builtin; refine Kd.N_append_rows k51 (w0 := w) w.heap.size rfl (.tmp 21) (.tmp 23) 36 51 (.agg #[(.int .u64 0), (.int .u64 0), (.slice none 0 0)]) 40 rfl Tryd.underlying36 info51 rfl (by decide) (by omega) u6 x6_1 t852 _ _ _ (fun k_ => (P1_ k_ ∨ w.heap.size ≤ k_) ∧ k_ ≠ gb851) (fun k_ => ((fun k_ => (P1_ k_ ∨ w.heap.size ≤ k_) ∧ k_ ≠ gb851)) k_ ∧ some k_ ≠ (u6 : Value).ownBlock) rfl rfl ?aO ?aR (fun _ hk => hk) ?aF ?aB ?aS ?aL ?_; (case aR => exact (by skip; exact Kd.N_F (Kd.N_mono (ok' := (fun k_ => ((fun k_ => (P1_ k_ ∨ w.heap.size ≤ k_) ∧ k_ ≠ gb851)) k_ ∧ some k_ ≠ (u6 : Value).ownBlock)) (HO854.out) (fun k_ hk => ⟨⟨hk.1, hk.2.2⟩, hk.2.1⟩)))); (case aB => exact (by repeat (first | (with_reducible first | exact HB.out)))); (case aF => exact (fun k_ hk => ⟨(.inr (Nat.le_trans (below_size (by repeat (first | (with_reducible first | exact HB.out)))) hk)), Kd.freshB (g := gb851) (o := .cells #[.int .u64 ((rd_T34 l1 x17_1).f0), .int .u64 ((rd_T34 l1 x17_1).f1), .slice A850_2 ((rd_T34 l1 x17_1).f2).length c850_2] 34 (0, 0)) (by exact BK851.out) k_ hk⟩)); (case aO => exact (by exact Kd.N_mono HO_6.out (fun _ hk => ⟨hk.1.1, hk.1.2⟩))); (case aS => exact (below_size (by repeat (first | (with_reducible first | exact HB.out))))); (case aL => have := LMc7.out; omega); intro v856 w13 ho hb hg hat; rw [← Ny855.out] at ho; have n0_ := Aside0.mk (Kd.V_afterv (ok := (fun k_ => (P1_ k_ ∨ w.heap.size ≤ k_) ∧ some k_ ≠ (.slice Ao14 t852.length co14 : Value).ownBlock ∧ k_ ≠ gb851)) (by exact Kd.V_mono HO_15.out (fun _ hk => ⟨⟨hk.1.1, ⟨hk.2, hk.1.2.2⟩⟩, hk.1.2.1⟩)) hg hat); have n1_ := Aside0.mk (Kd.V_afterv (ok := (fun k_ => (P1_ k_ ∨ w.heap.size ≤ k_) ∧ some k_ ≠ (.slice Ao14 t852.length co14 : Value).ownBlock ∧ k_ ≠ gb851)) (by exact Kd.V_mono HL850_2.out (fun _ hk => ⟨⟨hk.1.1, ⟨hk.2, hk.1.2.2⟩⟩, hk.1.2.1⟩)) hg hat); have n2_ := Aside0.mk (blk_grown (g := gb851) (o := .cells #[.int .u64 ((rd_T34 l1 x17_1).f0), .int .u64 ((rd_T34 l1 x17_1).f1), .slice A850_2 ((rd_T34 l1 x17_1).f2).length c850_2] 34 (0, 0)) (by exact BK851.out) hg (Kd.N_ne HO_6.out BK851.out (by decide))); have n3_ := Aside0.mk (Kd.N_afterv (ok := (fun k_ => (P1_ k_ ∨ w.heap.size ≤ k_) ∧ k_ ≠ gb851)) (by exact Kd.N_mono HO854.out (fun _ hk => ⟨⟨hk.1, hk.2.2⟩, hk.2.1⟩)) hg hat); have n4_ := Aside0.mk (hb); have n5_ := Aside0.mk (ho); clear HO_15; clear HL850_2; clear BK851; clear HO854; clear HB; clear HO_6; have HO_15 := n0_; have HL850_2 := n1_; have BK851 := n2_; have HO854 := n3_; have HB := n4_; have HO857 := n5_; clear n0_ n1_ n2_ n3_ n4_ n5_; clear ho hb hg hat))
       go_roundg k1
       case measure => have := HK1.out; omega
       case rel => exact ⟨(y855), (wrap64 (x17_1 + 1)), (by first | rfl), H', ⟨by have := HK1.out; omega⟩, ⟨by exact Kd.N_mono HO857.out (fun _ hk => hk.1)⟩, ⟨by exact Kd.V_mono HO_15.out (fun _ hk => ⟨hk.1.1, hk.2⟩)⟩, ⟨by repeat (first | (with_reducible first | exact HB.out))⟩⟩
      ·rw [if_neg c7] at H
       exact absurd H (by simp)
     ·rw [if_neg c5] at H
      exact absurd H (by simp)
    ·rw [if_neg c4] at H
     exact absurd H (by simp)
   ·rw [if_neg c3] at H
    have c3b0 : decide (x17_1 < (l1.length : Int)) = false := decide_eq_false c3
    clear c3
    have H' := Aside0.mk H
    clear H
    go_wp2
    try simp only [Act.put, List.setIfInBounds_toArray, List.set_cons_zero, List.set_cons_succ]
    go_loopg [9, 28] k1 (fun kq v9 v28 w' => ∃ (x9_2 : List (List Int)) (x28_2 : Int), v28 = .int .i64 x28_2 ∧ Aside0 (laws_growthHashes.l1 kq x6_1 x9_2 l0 (l0.length : Int) x28_2 = some (r1, r2)) ∧ Aside0 (kq ≤ k1) ∧ Aside0 (Kd.N k51 51 w' w.heap.size (fun k_ => (P1_ k_ ∨ w.heap.size ≤ k_) ∧ some k_ ≠ (v9 : Value).ownBlock) u6 x6_1) ∧ Aside0 (Kd.N (Kd.slice 5 (Kd.int .u8)) 27 w' w.heap.size (fun k_ => (P1_ k_ ∨ w.heap.size ≤ k_) ∧ some k_ ≠ (u6 : Value).ownBlock) v9 x9_2) ∧ Aside0 (Below w.heap.size w w'))
    case atStart => exact ⟨(([] : List (List Int))), (0), (by first | rfl), H', ⟨Nat.le_refl _⟩, ⟨by exact Kd.N_mono HO_6.out (fun _ hk => ⟨hk, (by simp [Value.ownBlock])⟩)⟩, ⟨by first | exact Kd.N_nil _ _ _ _ _⟩, ⟨by repeat (first | (with_reducible first | exact HB.out))⟩⟩
    case round =>
     clear H'
     try clear c1
     try clear p2
     try clear c3
     try clear c3b0
     try clear c4
     try clear c4b0
     try clear c5
     try clear c5b0
     try clear p6
     try clear c7
     try clear c8
     try clear p8
     try clear q8
     try clear hx8
     try clear hcz11_0
     try clear hcz11_1
     try clear hcz11_2
     try clear hcz9_0
     try clear hcz9_1
     try clear hcz9_2
     try clear hfz11_0
     try clear hfz11_1
     try clear hfz11_2
     try clear hfz9_0
     try clear hfz9_1
     try clear hfz9_2
     try clear hx850_0
     try clear hx850_1
     try clear hx850_2
     try clear p2
     try clear p850
     try clear q850
     obtain ⟨x9_2, x28_2, rfl, HA, HK2, HO_6, HO_9, HB⟩ := hrel
     cases gk with
     | zero => exact absurd HA.out (by simp [laws_growthHashes.l1])
     | succ k2 =>
      have H := HA.out
      clear HA
      simp only [laws_growthHashes.l1] at H
      by_cases c15 : x28_2 < (l0.length : Int)
      ·rw [if_pos c15] at H
       have c15b0 : decide (x28_2 < (l0.length : Int)) = true := decide_eq_true c15
       clear c15
       by_cases c16 : 0 ≤ x28_2
       ·rw [if_pos c16] at H
        have c16b0 : decide (0 ≤ x28_2) = true := decide_eq_true c16
        clear c16
        by_cases c17 : x28_2 < (l0.length : Int)
        ·rw [if_pos c17] at H
         have c17b0 : decide (x28_2 < (l0.length : Int)) = true := decide_eq_true c17
         clear c17
         have H' := Aside0.mk H
         clear H
         have p858 : 0 ≤ (x28_2 : Int) := of_decide_eq_true (by first | (with_reducible assumption))
         have q858 : x28_2 < (l0.length : Int) := of_decide_eq_true (by first | (with_reducible assumption))
         obtain ⟨ad858, e858, hx858_0, hx858_1⟩ := at_T49 HR0.out x28_2 p858 q858
         cases e858
         replace hx858_0 := (HB.out.cell (World.block_lt_of_cell? w _ hx858_0)).trans hx858_0
         replace hx858_1 := (HB.out.cell (World.block_lt_of_cell? w _ hx858_1)).trans hx858_1
         replace p858 := eq_true p858
         replace q858 := eq_true q858
         go_wp2_with (first | ((with_reducible refine gate_dst (N := 11) rfl ?_); refine box_event ?hg (N := 11) ?hd (cs := #[.int .u64 0, .int .u64 0]) (t := 49) ?hr ?_; (case hd => rfl); (case hg => rfl); (case hr => first | (go_simp; done)); intro gb859 hg w18 hbox hb; have n0_ := Aside0.mk (Kd.N_below (Kd.N_elderB (by exact HO_6.out) gb859 (Nat.le_of_eq hg.symm)) hb); have n1_ := Aside0.mk (Kd.N_below (Kd.N_elderB (by exact HO_9.out) gb859 (Nat.le_of_eq hg.symm)) hb); have n2_ := Aside0.mk (below_step (by repeat (first | (with_reducible first | exact HB.out))) hb); have n3_ := Aside0.mk (hbox); have n4_ := Aside0.mk ((by rw [hg]; exact (below_size (by repeat (first | (with_reducible first | exact HB.out)))) : w.heap.size ≤ gb859)); have n5_ := Aside0.mk ((by rw [hg]; exact (below_size (by repeat (first | (with_reducible first | exact HB.out)))) : w.heap.size ≤ gb859)); clear HO_6; clear HO_9; clear HB; have HO_6 := n0_; have HO_9 := n1_; have HB := n2_; have BK859 := n3_; have GW859 := n4_; have GE859 := n5_; clear n0_ n1_ n2_ n3_ n4_ n5_; clear hb hbox hg; have hcz19_0 : w18.cell? ⟨gb859, 0, none⟩ = some (.int .u64 0) := (blk_cell BK859.out 0).trans rfl; have hcz19_1 : w18.cell? ⟨gb859, 1, none⟩ = some (.int .u64 0) := (blk_cell BK859.out 1).trans rfl; have hfz19_0 := blk_frozen BK859.out 0; have hfz19_1 := blk_frozen BK859.out 1; obtain ⟨Ao20, co20, eo20⟩ := Kd.N_slice HO_6.out; subst eo20))
         try simp only [Act.put, List.setIfInBounds_toArray, List.set_cons_zero, List.set_cons_succ]
         go_loopg [9, 12, 34] k2 (fun kq v9 v12 v34 w' => ∃ (x9_3 : List (List Int)) (x12_3 : Bool) (x34_3 : Int), v12 = .bool x12_3 ∧ v34 = .int .i64 x34_3 ∧ Aside0 (laws_growthHashes.l2 kq x6_1 x9_3 x12_3 l0 (l0.length : Int) x28_2 x6_1 (x6_1.length : Int) x34_3 ((rd_T49 l0 x28_2).f0) ((rd_T49 l0 x28_2).f1) = some (r1, r2)) ∧ Aside0 (kq ≤ k2) ∧ Aside0 (Kd.N k51 51 w' w.heap.size (fun k_ => (P1_ k_ ∨ w.heap.size ≤ k_) ∧ some k_ ≠ (v9 : Value).ownBlock ∧ k_ ≠ gb859) (.slice Ao20 x6_1.length co20) x6_1) ∧ Aside0 (Kd.N (Kd.slice 5 (Kd.int .u8)) 27 w' w.heap.size (fun k_ => (P1_ k_ ∨ w.heap.size ≤ k_) ∧ some k_ ≠ ((.slice Ao20 x6_1.length co20) : Value).ownBlock ∧ some k_ ≠ ((.slice Ao20 x6_1.length co20) : Value).ownBlock ∧ k_ ≠ gb859) v9 x9_3) ∧ Aside0 (Kd.N k51 51 w' w.heap.size (fun k_ => (P1_ k_ ∨ w.heap.size ≤ k_) ∧ some k_ ≠ (v9 : Value).ownBlock ∧ k_ ≠ gb859) (.slice Ao20 x6_1.length co20) x6_1) ∧ Aside0 (w'.heap[gb859]? = some (.cells #[.int .u64 ((rd_T49 l0 x28_2).f0), .int .u64 ((rd_T49 l0 x28_2).f1)] 49 (0, 0))) ∧ Aside0 (Below w.heap.size w w'))
         case atStart => exact ⟨(x9_2), (false), (0), (by first | rfl), (by first | rfl), H', ⟨Nat.le_refl _⟩, ⟨by exact Kd.N_mono (Kd.N_far (p := ⟨gb859, 1, none⟩) (Kd.N_far (p := ⟨gb859, 0, none⟩) (Kd.N_mono HO_6.out (fun k_ hk => (⟨hk, hk.2⟩ : _ ∧ k_ ≠ gb859))) (fun _ hk => hk.2) (.int .u64 ((rd_T49 l0 x28_2).f0))) (fun _ hk => hk.2) (.int .u64 ((rd_T49 l0 x28_2).f1))) (fun _ hk => ⟨hk.1.1.1, ⟨hk.1.1.2, hk.1.2⟩⟩)⟩, ⟨by exact Kd.N_mono (Kd.N_far (p := ⟨gb859, 1, none⟩) (Kd.N_far (p := ⟨gb859, 0, none⟩) (Kd.N_mono HO_9.out (fun k_ hk => (⟨hk, hk.2⟩ : _ ∧ k_ ≠ gb859))) (fun _ hk => hk.2) (.int .u64 ((rd_T49 l0 x28_2).f0))) (fun _ hk => hk.2) (.int .u64 ((rd_T49 l0 x28_2).f1))) (fun _ hk => ⟨hk.1.1.1, ⟨hk.1.1.2, ⟨hk.1.1.2, hk.1.2⟩⟩⟩)⟩, ⟨by exact Kd.N_mono (Kd.N_far (p := ⟨gb859, 1, none⟩) (Kd.N_far (p := ⟨gb859, 0, none⟩) (Kd.N_mono HO_6.out (fun k_ hk => (⟨hk, hk.2⟩ : _ ∧ k_ ≠ gb859))) (fun _ hk => hk.2) (.int .u64 ((rd_T49 l0 x28_2).f0))) (fun _ hk => hk.2) (.int .u64 ((rd_T49 l0 x28_2).f1))) (fun _ hk => ⟨hk.1.1.1, ⟨hk.1.1.2, hk.1.2⟩⟩)⟩, ⟨by refine blk_put (cs := #[.int .u64 ((rd_T49 l0 x28_2).f0), .int .u64 0]) ?_ 1 _ rfl; refine blk_put (cs := #[.int .u64 0, .int .u64 0]) ?_ 0 _ rfl; exact BK859.out⟩, ⟨by repeat (first | (with_reducible first | exact HB.out | refine below_set ?_ GE859.out))⟩⟩
         case round =>
          clear H'
          try clear c1
          try clear p2
          try clear c3
          try clear c3b0
          try clear c4
          try clear c4b0
          try clear c5
          try clear c5b0
          try clear p6
          try clear c7
          try clear c8
          try clear p8
          try clear q8
          try clear hx8
          try clear c15
          try clear c15b0
          try clear c16
          try clear c16b0
          try clear c17
          try clear c17b0
          try clear hcz11_0
          try clear hcz11_1
          try clear hcz11_2
          try clear hcz19_0
          try clear hcz19_1
          try clear hcz9_0
          try clear hcz9_1
          try clear hcz9_2
          try clear hfz11_0
          try clear hfz11_1
          try clear hfz11_2
          try clear hfz19_0
          try clear hfz19_1
          try clear hfz9_0
          try clear hfz9_1
          try clear hfz9_2
          try clear hx850_0
          try clear hx850_1
          try clear hx850_2
          try clear hx858_0
          try clear hx858_1
          try clear p2
          try clear p6
          try clear p8
          try clear p850
          try clear p858
          try clear q8
          try clear q850
          try clear q858
          obtain ⟨x9_3, x12_3, x34_3, rfl, rfl, HA, HK3, HO_6, HO_9, HO_32, BK859, HB⟩ := hrel
          cases gk with
          | zero => exact absurd HA.out (by simp [laws_growthHashes.l2])
          | succ k3 =>
           have H := HA.out
           clear HA
           simp only [laws_growthHashes.l2] at H
           by_cases c21 : x34_3 < (x6_1.length : Int)
           ·rw [if_pos c21] at H
            have c21b0 : decide (x34_3 < (x6_1.length : Int)) = true := decide_eq_true c21
            clear c21
            by_cases c22 : 0 ≤ x34_3
            ·rw [if_pos c22] at H
             have c22b0 : decide (0 ≤ x34_3) = true := decide_eq_true c22
             clear c22
             by_cases c23 : x34_3 < (x6_1.length : Int)
             ·rw [if_pos c23] at H
              have c23b0 : decide (x34_3 < (x6_1.length : Int)) = true := decide_eq_true c23
              clear c23
              by_cases c24 : (((rd_T51 x6_1 x34_3).f0.f0) == ((rd_T49 l0 x28_2).f0) && (((rd_T51 x6_1 x34_3).f0.f1) == ((rd_T49 l0 x28_2).f1))) = true
              ·rw [if_pos c24] at H
               have c24b0 : (((rd_T51 x6_1 x34_3).f0.f0) == ((rd_T49 l0 x28_2).f0) && (((rd_T51 x6_1 x34_3).f0.f1) == ((rd_T49 l0 x28_2).f1))) = true := c24
               (try (have c24b1 : decide (((rd_T51 x6_1 x34_3).f0.f0) = ((rd_T49 l0 x28_2).f0) && (((rd_T51 x6_1 x34_3).f0.f1) == ((rd_T49 l0 x28_2).f1))) = true := by simpa using c24))
               (try (have c24b2 : (((rd_T51 x6_1 x34_3).f0.f0) == ((rd_T49 l0 x28_2).f0) && (((rd_T51 x6_1 x34_3).f0.f1) == ((rd_T49 l0 x28_2).f1))) = true := by simpa using c24))
               clear c24
               by_cases c25 : x12_3 = true
               ·subst c25
                have H1 : (laws_growthHashes.l2 k3 x6_1 x9_3 true l0 (l0.length : Int) x28_2 x6_1 (x6_1.length : Int) (wrap64 (x34_3 + 1)) ((rd_T49 l0 x28_2).f0) ((rd_T49 l0 x28_2).f1)) = some (r1, r2) := by rw [if_pos rfl] at H; exact H
                clear H
                have H := H1
                clear H1
                have H' := Aside0.mk H
                clear H
                have p860 : 0 ≤ (x34_3 : Int) := of_decide_eq_true (by first | (with_reducible assumption))
                have q860 : x34_3 < (x6_1.length : Int) := of_decide_eq_true (by first | (with_reducible assumption))
                obtain ⟨ad860, A860_2, c860_2, e860, hx860_0, hx860_1, hx860_2, hl860_2, hi860_2⟩ := at_T51 (Kd.N_reads' HO_32.out).2.2 x34_3 p860 q860
                cases e860
                obtain ⟨ce860, hce860, hMe860, hcc860⟩ := Kd.N_get HO_32.out z51 x34_3 p860 (by first | exact q860)
                obtain ⟨ua860_2, uc860_2, rfl, ul860_2, ge860_2⟩ := k51_openF hMe860
                have hv860_2 := hcc860 2 _ rfl
                rw [add_field _ _ 2 (by omega)] at hv860_2
                replace hv860_2 := Option.some.inj (hv860_2.symm.trans hx860_2)
                injection hv860_2 with hva_ hvn_ hvc_
                rw [hva_] at ge860_2
                rw [hvc_] at ul860_2
                have HL860_2 := Aside0.mk (show Kd.V (Kd.int .u8) 5 _ w.heap.size _ _ ((rd_T51 x6_1 x34_3).f1) from Kd.V_mk ul860_2 ge860_2)
                clear hva_ hvn_ hvc_ ge860_2 ul860_2
                clear hcc860 hce860
                have HR860_2 := Aside0.mk hi860_2
                have HC860_2 := Aside0.mk hl860_2
                clear hi860_2 hl860_2
                replace p860 := eq_true p860
                replace q860 := eq_true q860
                go_wp2_with (first | ((with_reducible refine gate_dst (N := 14) rfl ?_); refine box_event ?hg (N := 14) ?hd (cs := #[.int .u64 0, .int .u64 0, .slice none 0 0]) (t := 51) ?hr ?_; (case hd => rfl); (case hg => rfl); (case hr => first | (go_simp; done)); intro gb861 hg w26 hbox hb; have n0_ := Aside0.mk (Kd.N_below (Kd.N_elderB (by exact HO_6.out) gb861 (Nat.le_of_eq hg.symm)) hb); have n1_ := Aside0.mk (Kd.N_below (Kd.N_elderB (by exact HO_9.out) gb861 (Nat.le_of_eq hg.symm)) hb); have n2_ := Aside0.mk (Kd.N_below (Kd.N_elderB (by exact HO_32.out) gb861 (Nat.le_of_eq hg.symm)) hb); have n3_ := Aside0.mk (Kd.V_below (Kd.V_elderB (by exact HL860_2.out) gb861 (Nat.le_of_eq hg.symm)) hb); have n4_ := Aside0.mk (blk_below (g := gb859) (o := .cells #[.int .u64 ((rd_T49 l0 x28_2).f0), .int .u64 ((rd_T49 l0 x28_2).f1)] 49 (0, 0)) (by exact BK859.out) hb); have n5_ := Aside0.mk (Kd.C_below (by repeat (first | (with_reducible exact HR860_2.out))) hb); have n6_ := Aside0.mk (below_step (by repeat (first | (with_reducible first | exact HB.out))) hb); have n7_ := Aside0.mk (hbox); have n8_ := Aside0.mk ((by rw [hg]; exact (below_size (by repeat (first | (with_reducible first | exact HB.out)))) : w.heap.size ≤ gb861)); have n9_ := Aside0.mk ((by rw [hg]; exact (below_size (by repeat (first | (with_reducible first | exact HB.out)))) : w.heap.size ≤ gb861)); have n10_ := Aside0.mk ((by rw [hg]; exact Nat.ne_of_lt (blk_lt (g := gb859) (o := .cells #[.int .u64 ((rd_T49 l0 x28_2).f0), .int .u64 ((rd_T49 l0 x28_2).f1)] 49 (0, 0)) (by exact BK859.out)) : gb859 ≠ gb861)); have n11_ := Aside0.mk ((by rw [hg]; exact Nat.ne_of_gt (blk_lt (g := gb859) (o := .cells #[.int .u64 ((rd_T49 l0 x28_2).f0), .int .u64 ((rd_T49 l0 x28_2).f1)] 49 (0, 0)) (by exact BK859.out)) : gb861 ≠ gb859)); clear HO_6; clear HO_9; clear HO_32; clear HL860_2; clear BK859; clear HR860_2; clear HB; have HO_6 := n0_; have HO_9 := n1_; have HO_32 := n2_; have HL860_2 := n3_; have BK859 := n4_; have HR860_2 := n5_; have HB := n6_; have BK861 := n7_; have GW861 := n8_; have GE861 := n9_; have NB859_861 := n10_; have NB861_859 := n11_; clear n0_ n1_ n2_ n3_ n4_ n5_ n6_ n7_ n8_ n9_ n10_ n11_; clear hb hbox hg; have hnb27 := NB861_859.out; have hnc27 := NB859_861.out; have hcz28_0 : w26.cell? ⟨gb861, 0, none⟩ = some (.int .u64 0) := (blk_cell BK861.out 0).trans rfl; have hcz28_1 : w26.cell? ⟨gb861, 1, none⟩ = some (.int .u64 0) := (blk_cell BK861.out 1).trans rfl; have hcz28_2 : w26.cell? ⟨gb861, 2, none⟩ = some (.slice none 0 0) := (blk_cell BK861.out 2).trans rfl; have hfz28_0 := blk_frozen BK861.out 0; have hfz28_1 := blk_frozen BK861.out 1; have hfz28_2 := blk_frozen BK861.out 2; have hcz29_0 : w26.cell? ⟨gb859, 0, none⟩ = some (.int .u64 ((rd_T49 l0 x28_2).f0)) := (blk_cell BK859.out 0).trans rfl; have hcz29_1 : w26.cell? ⟨gb859, 1, none⟩ = some (.int .u64 ((rd_T49 l0 x28_2).f1)) := (blk_cell BK859.out 1).trans rfl; have hfz29_0 := blk_frozen BK859.out 0; have hfz29_1 := blk_frozen BK859.out 1))
                go_roundg k3
                case measure => have := HK1.out; have := HK2.out; have := HK3.out; omega
                case rel => exact ⟨(x9_3), (true), (wrap64 (x34_3 + 1)), (by first | rfl), (by first | rfl), H', ⟨by have := HK1.out; have := HK2.out; have := HK3.out; omega⟩, ⟨by exact Kd.N_mono (Kd.N_far (p := ⟨gb861, 2, none⟩) (Kd.N_far (p := ⟨gb861, 1, none⟩) (Kd.N_far (p := ⟨gb861, 0, none⟩) (Kd.N_mono HO_6.out (fun k_ hk => (⟨hk, hk.2⟩ : _ ∧ k_ ≠ gb861))) (fun _ hk => hk.2) (.int .u64 ((rd_T51 x6_1 x34_3).f0.f0))) (fun _ hk => hk.2) (.int .u64 ((rd_T51 x6_1 x34_3).f0.f1))) (fun _ hk => hk.2) (.slice A860_2 ((rd_T51 x6_1 x34_3).f1).length c860_2)) (fun _ hk => ⟨hk.1.1.1, ⟨hk.1.1.2.1, hk.1.1.2.2⟩⟩)⟩, ⟨by exact Kd.N_mono (Kd.N_far (p := ⟨gb861, 2, none⟩) (Kd.N_far (p := ⟨gb861, 1, none⟩) (Kd.N_far (p := ⟨gb861, 0, none⟩) (Kd.N_mono HO_9.out (fun k_ hk => (⟨hk, hk.2⟩ : _ ∧ k_ ≠ gb861))) (fun _ hk => hk.2) (.int .u64 ((rd_T51 x6_1 x34_3).f0.f0))) (fun _ hk => hk.2) (.int .u64 ((rd_T51 x6_1 x34_3).f0.f1))) (fun _ hk => hk.2) (.slice A860_2 ((rd_T51 x6_1 x34_3).f1).length c860_2)) (fun _ hk => ⟨hk.1.1.1, ⟨hk.1.1.2.1, ⟨hk.1.1.2.2.1, hk.1.1.2.2.2⟩⟩⟩)⟩, ⟨by exact Kd.N_mono (Kd.N_far (p := ⟨gb861, 2, none⟩) (Kd.N_far (p := ⟨gb861, 1, none⟩) (Kd.N_far (p := ⟨gb861, 0, none⟩) (Kd.N_mono HO_32.out (fun k_ hk => (⟨hk, hk.2⟩ : _ ∧ k_ ≠ gb861))) (fun _ hk => hk.2) (.int .u64 ((rd_T51 x6_1 x34_3).f0.f0))) (fun _ hk => hk.2) (.int .u64 ((rd_T51 x6_1 x34_3).f0.f1))) (fun _ hk => hk.2) (.slice A860_2 ((rd_T51 x6_1 x34_3).f1).length c860_2)) (fun _ hk => ⟨hk.1.1.1, ⟨hk.1.1.2.1, hk.1.1.2.2⟩⟩)⟩, ⟨by refine blk_far ?_ NB859_861.out _; refine blk_far ?_ NB859_861.out _; refine blk_far ?_ NB859_861.out _; exact BK859.out⟩, ⟨by repeat (first | (with_reducible first | exact HB.out | refine below_set ?_ GE861.out))⟩⟩
               ·replace c25 := Bool.eq_false_iff.mpr c25
                subst c25
                have H1 : ((some (([] : List Int) : List Int)).bind fun y862 => (if y862.length + ((rd_T51 x6_1 x34_3).f1).length < 140737488355328 then (if x9_3.length < 5864062014805 then (laws_growthHashes.l2 k3 x6_1 (x9_3 ++ [(y862 ++ ((rd_T51 x6_1 x34_3).f1))]) true l0 (l0.length : Int) x28_2 x6_1 (x6_1.length : Int) (wrap64 (x34_3 + 1)) ((rd_T49 l0 x28_2).f0) ((rd_T49 l0 x28_2).f1)) else (none)) else (none))) = some (r1, r2) := by rw [if_neg (show ¬ (false = true) by decide)] at H; exact H
                clear H
                have H := H1
                clear H1
                obtain ⟨y862, hy862⟩ : ∃ y_ : List Int, y_ = (([] : List Int)) := ⟨_, rfl⟩
                replace H : (if y862.length + ((rd_T51 x6_1 x34_3).f1).length < 140737488355328 then (if x9_3.length < 5864062014805 then (laws_growthHashes.l2 k3 x6_1 (x9_3 ++ [(y862 ++ ((rd_T51 x6_1 x34_3).f1))]) true l0 (l0.length : Int) x28_2 x6_1 (x6_1.length : Int) (wrap64 (x34_3 + 1)) ((rd_T49 l0 x28_2).f0) ((rd_T49 l0 x28_2).f1)) else (none)) else (none)) = some (r1, r2) := by first | (have H2_ := (Option.bind_some _ _).symm.trans H; rw [hy862]; with_reducible exact H2_)
                have Ny862 := Aside0.mk hy862
                clear hy862
                by_cases c30 : y862.length + ((rd_T51 x6_1 x34_3).f1).length < 140737488355328
                ·rw [if_pos c30] at H
                 have LMc30 := Aside0.mk c30
                 clear c30
                 obtain ⟨y865, hy865⟩ : ∃ y_ : List Int, y_ = (y862 ++ ((rd_T51 x6_1 x34_3).f1)) := ⟨_, rfl⟩
                 replace H : (if x9_3.length < 5864062014805 then (laws_growthHashes.l2 k3 x6_1 (x9_3 ++ [y865]) true l0 (l0.length : Int) x28_2 x6_1 (x6_1.length : Int) (wrap64 (x34_3 + 1)) ((rd_T49 l0 x28_2).f0) ((rd_T49 l0 x28_2).f1)) else (none)) = some (r1, r2) := by first | (rw [hy865]; with_reducible exact H)
                 have Ny865 := Aside0.mk hy865
                 clear hy865
                 by_cases c31 : x9_3.length < 5864062014805
                 ·rw [if_pos c31] at H
                  have LMc31 := Aside0.mk c31
                  clear c31
                  obtain ⟨y868, hy868⟩ : ∃ y_ : List (List Int), y_ = (x9_3 ++ [y865]) := ⟨_, rfl⟩
                  replace H : (laws_growthHashes.l2 k3 x6_1 y868 true l0 (l0.length : Int) x28_2 x6_1 (x6_1.length : Int) (wrap64 (x34_3 + 1)) ((rd_T49 l0 x28_2).f0) ((rd_T49 l0 x28_2).f1)) = some (r1, r2) := by first | (rw [hy868]; with_reducible exact H)
                  have Ny868 := Aside0.mk hy868
                  clear hy868
                  have H' := Aside0.mk H
                  clear H
                  have p860 : 0 ≤ (x34_3 : Int) := of_decide_eq_true (by first | (with_reducible assumption))
                  have q860 : x34_3 < (x6_1.length : Int) := of_decide_eq_true (by first | (with_reducible assumption))
                  obtain ⟨ad860, A860_2, c860_2, e860, hx860_0, hx860_1, hx860_2, hl860_2, hi860_2⟩ := at_T51 (Kd.N_reads' HO_32.out).2.2 x34_3 p860 q860
                  cases e860
                  obtain ⟨ce860, hce860, hMe860, hcc860⟩ := Kd.N_get HO_32.out z51 x34_3 p860 (by first | exact q860)
                  obtain ⟨ua860_2, uc860_2, rfl, ul860_2, ge860_2⟩ := k51_openF hMe860
                  have hv860_2 := hcc860 2 _ rfl
                  rw [add_field _ _ 2 (by omega)] at hv860_2
                  replace hv860_2 := Option.some.inj (hv860_2.symm.trans hx860_2)
                  injection hv860_2 with hva_ hvn_ hvc_
                  rw [hva_] at ge860_2
                  rw [hvc_] at ul860_2
                  have HL860_2 := Aside0.mk (show Kd.V (Kd.int .u8) 5 _ w.heap.size _ _ ((rd_T51 x6_1 x34_3).f1) from Kd.V_mk ul860_2 ge860_2)
                  clear hva_ hvn_ hvc_ ge860_2 ul860_2
                  clear hcc860 hce860
                  have HR860_2 := Aside0.mk hi860_2
                  have HC860_2 := Aside0.mk hl860_2
                  clear hi860_2 hl860_2
                  replace p860 := eq_true p860
                  replace q860 := eq_true q860
                  go_wp2_with (first | ((with_reducible refine gate_dst (N := 14) rfl ?_); refine box_event ?hg (N := 14) ?hd (cs := #[.int .u64 0, .int .u64 0, .slice none 0 0]) (t := 51) ?hr ?_; (case hd => rfl); (case hg => rfl); (case hr => first | (go_simp; done)); intro gb861 hg w32 hbox hb; have n0_ := Aside0.mk (Kd.N_below (Kd.N_elderB (by exact HO_6.out) gb861 (Nat.le_of_eq hg.symm)) hb); have n1_ := Aside0.mk (Kd.N_below (Kd.N_elderB (by exact HO_9.out) gb861 (Nat.le_of_eq hg.symm)) hb); have n2_ := Aside0.mk (Kd.N_below (Kd.N_elderB (by exact HO_32.out) gb861 (Nat.le_of_eq hg.symm)) hb); have n3_ := Aside0.mk (Kd.V_below (Kd.V_elderB (by exact HL860_2.out) gb861 (Nat.le_of_eq hg.symm)) hb); have n4_ := Aside0.mk (blk_below (g := gb859) (o := .cells #[.int .u64 ((rd_T49 l0 x28_2).f0), .int .u64 ((rd_T49 l0 x28_2).f1)] 49 (0, 0)) (by exact BK859.out) hb); have n5_ := Aside0.mk (Kd.C_below (by repeat (first | (with_reducible exact HR860_2.out))) hb); have n6_ := Aside0.mk (below_step (by repeat (first | (with_reducible first | exact HB.out))) hb); have n7_ := Aside0.mk (hbox); have n8_ := Aside0.mk ((by rw [hg]; exact (below_size (by repeat (first | (with_reducible first | exact HB.out)))) : w.heap.size ≤ gb861)); have n9_ := Aside0.mk ((by rw [hg]; exact (below_size (by repeat (first | (with_reducible first | exact HB.out)))) : w.heap.size ≤ gb861)); have n10_ := Aside0.mk ((by rw [hg]; exact Nat.ne_of_lt (blk_lt (g := gb859) (o := .cells #[.int .u64 ((rd_T49 l0 x28_2).f0), .int .u64 ((rd_T49 l0 x28_2).f1)] 49 (0, 0)) (by exact BK859.out)) : gb859 ≠ gb861)); have n11_ := Aside0.mk ((by rw [hg]; exact Nat.ne_of_gt (blk_lt (g := gb859) (o := .cells #[.int .u64 ((rd_T49 l0 x28_2).f0), .int .u64 ((rd_T49 l0 x28_2).f1)] 49 (0, 0)) (by exact BK859.out)) : gb861 ≠ gb859)); clear HO_6; clear HO_9; clear HO_32; clear HL860_2; clear BK859; clear HR860_2; clear HB; have HO_6 := n0_; have HO_9 := n1_; have HO_32 := n2_; have HL860_2 := n3_; have BK859 := n4_; have HR860_2 := n5_; have HB := n6_; have BK861 := n7_; have GW861 := n8_; have GE861 := n9_; have NB859_861 := n10_; have NB861_859 := n11_; clear n0_ n1_ n2_ n3_ n4_ n5_ n6_ n7_ n8_ n9_ n10_ n11_; clear hb hbox hg; have hnb33 := NB861_859.out; have hnc33 := NB859_861.out; have hcz34_0 : w32.cell? ⟨gb861, 0, none⟩ = some (.int .u64 0) := (blk_cell BK861.out 0).trans rfl; have hcz34_1 : w32.cell? ⟨gb861, 1, none⟩ = some (.int .u64 0) := (blk_cell BK861.out 1).trans rfl; have hcz34_2 : w32.cell? ⟨gb861, 2, none⟩ = some (.slice none 0 0) := (blk_cell BK861.out 2).trans rfl; have hfz34_0 := blk_frozen BK861.out 0; have hfz34_1 := blk_frozen BK861.out 1; have hfz34_2 := blk_frozen BK861.out 2; have hcz35_0 : w32.cell? ⟨gb859, 0, none⟩ = some (.int .u64 ((rd_T49 l0 x28_2).f0)) := (blk_cell BK859.out 0).trans rfl; have hcz35_1 : w32.cell? ⟨gb859, 1, none⟩ = some (.int .u64 ((rd_T49 l0 x28_2).f1)) := (blk_cell BK859.out 1).trans rfl; have hfz35_0 := blk_frozen BK859.out 0; have hfz35_1 := blk_frozen BK859.out 1) | ((with_reducible refine gate_dst (N := 47) rfl ?_); refine Kd.R_lit (Kd.int .u8) _ 5 ?hg (N := 47) ?hd (xs := ([] : List Int)) (inner := []) (ok := fun _ => True) (okp := fun _ => True) ?hr ?hp (fun _ hk => hk) trivial (Below.refl _ _) (Nat.le_refl _) (by simp) ?_; (case hd => rfl); (case hg => rfl); (case hr => first | (go_simp; done)); (case hp => exact (Reps.none _ _)); intro v863 w36 ho37 hb hg_ hnew_; clear hg_ hnew_; (first | rw [← Ny862.out] at ho37); have n0_ := Aside0.mk (Kd.N_elder' (by exact (Kd.N_mono (Kd.N_far (p := ⟨gb861, 2, none⟩) (Kd.N_far (p := ⟨gb861, 1, none⟩) (Kd.N_far (p := ⟨gb861, 0, none⟩) (Kd.N_mono HO_6.out (fun k_ hk => (⟨hk, hk.2⟩ : _ ∧ k_ ≠ gb861))) (fun _ hk => hk.2) (.int .u64 ((rd_T51 x6_1 x34_3).f0.f0))) (fun _ hk => hk.2) (.int .u64 ((rd_T51 x6_1 x34_3).f0.f1))) (fun _ hk => hk.2) (.slice A860_2 ((rd_T51 x6_1 x34_3).f1).length c860_2)) (fun _ h_ => h_.1))) (Kd.R_base ho37) hb); have n1_ := Aside0.mk (Kd.N_elder' (by exact (Kd.N_mono (Kd.N_far (p := ⟨gb861, 2, none⟩) (Kd.N_far (p := ⟨gb861, 1, none⟩) (Kd.N_far (p := ⟨gb861, 0, none⟩) (Kd.N_mono HO_9.out (fun k_ hk => (⟨hk, hk.2⟩ : _ ∧ k_ ≠ gb861))) (fun _ hk => hk.2) (.int .u64 ((rd_T51 x6_1 x34_3).f0.f0))) (fun _ hk => hk.2) (.int .u64 ((rd_T51 x6_1 x34_3).f0.f1))) (fun _ hk => hk.2) (.slice A860_2 ((rd_T51 x6_1 x34_3).f1).length c860_2)) (fun _ h_ => h_.1))) (Kd.R_base ho37) hb); have n2_ := Aside0.mk (Kd.N_elder' (by exact (Kd.N_mono (Kd.N_far (p := ⟨gb861, 2, none⟩) (Kd.N_far (p := ⟨gb861, 1, none⟩) (Kd.N_far (p := ⟨gb861, 0, none⟩) (Kd.N_mono HO_32.out (fun k_ hk => (⟨hk, hk.2⟩ : _ ∧ k_ ≠ gb861))) (fun _ hk => hk.2) (.int .u64 ((rd_T51 x6_1 x34_3).f0.f0))) (fun _ hk => hk.2) (.int .u64 ((rd_T51 x6_1 x34_3).f0.f1))) (fun _ hk => hk.2) (.slice A860_2 ((rd_T51 x6_1 x34_3).f1).length c860_2)) (fun _ h_ => h_.1))) (Kd.R_base ho37) hb); have n3_ := Aside0.mk (Kd.V_elder' (by exact (Kd.V_mono (Kd.V_far (p := ⟨gb861, 2, none⟩) (Kd.V_far (p := ⟨gb861, 1, none⟩) (Kd.V_far (p := ⟨gb861, 0, none⟩) (Kd.V_mono HL860_2.out (fun k_ hk => (⟨hk, hk.2⟩ : _ ∧ k_ ≠ gb861))) (fun _ hk => hk.2) (.int .u64 ((rd_T51 x6_1 x34_3).f0.f0))) (fun _ hk => hk.2) (.int .u64 ((rd_T51 x6_1 x34_3).f0.f1))) (fun _ hk => hk.2) (.slice A860_2 ((rd_T51 x6_1 x34_3).f1).length c860_2)) (fun _ h_ => h_.1))) (Kd.R_base ho37) hb); have n4_ := Aside0.mk (Kd.R_lower (Kd.R_newM (M := fun k_ => (w.heap.size ≤ k_)) ho37 (below_size (by repeat (first | (with_reducible first | exact HB.out | refine below_set ?_ GE861.out)))) (fun k_ h_ => h_)) (below_size (by repeat (first | (with_reducible first | exact HB.out | refine below_set ?_ GE861.out))))); have n5_ := Aside0.mk (blk_below (g := gb859) (o := .cells #[.int .u64 ((rd_T49 l0 x28_2).f0), .int .u64 ((rd_T49 l0 x28_2).f1)] 49 (0, 0)) (by refine blk_far ?_ NB859_861.out _; refine blk_far ?_ NB859_861.out _; refine blk_far ?_ NB859_861.out _; exact BK859.out) hb); have n6_ := Aside0.mk (Kd.C_below ((Kd.V_reads' (by exact (Kd.V_mono (Kd.V_far (p := ⟨gb861, 2, none⟩) (Kd.V_far (p := ⟨gb861, 1, none⟩) (Kd.V_far (p := ⟨gb861, 0, none⟩) (Kd.V_mono HL860_2.out (fun k_ hk => (⟨hk, hk.2⟩ : _ ∧ k_ ≠ gb861))) (fun _ hk => hk.2) (.int .u64 ((rd_T51 x6_1 x34_3).f0.f0))) (fun _ hk => hk.2) (.int .u64 ((rd_T51 x6_1 x34_3).f0.f1))) (fun _ hk => hk.2) (.slice A860_2 ((rd_T51 x6_1 x34_3).f1).length c860_2)) (fun _ h_ => h_.1)))).2.2) hb); have n7_ := Aside0.mk (blk_below (g := gb861) (o := .cells #[.int .u64 ((rd_T51 x6_1 x34_3).f0.f0), .int .u64 ((rd_T51 x6_1 x34_3).f0.f1), .slice A860_2 ((rd_T51 x6_1 x34_3).f1).length c860_2] 51 (0, 0)) (by refine blk_put (cs := #[.int .u64 ((rd_T51 x6_1 x34_3).f0.f0), .int .u64 ((rd_T51 x6_1 x34_3).f0.f1), .slice none 0 0]) ?_ 2 _ rfl; refine blk_put (cs := #[.int .u64 ((rd_T51 x6_1 x34_3).f0.f0), .int .u64 0, .slice none 0 0]) ?_ 1 _ rfl; refine blk_put (cs := #[.int .u64 0, .int .u64 0, .slice none 0 0]) ?_ 0 _ rfl; exact BK861.out) hb); have n8_ := Aside0.mk (below_step (by repeat (first | (with_reducible first | exact HB.out | refine below_set ?_ GE861.out))) hb); clear HO_6; clear HO_9; clear HO_32; clear HL860_2; clear BK859; clear HR860_2; clear BK861; clear HB; have HO_6 := n0_; have HO_9 := n1_; have HO_32 := n2_; have HL860_2 := n3_; have HO864 := n4_; have BK859 := n5_; have HR860_2 := n6_; have BK861 := n7_; have HB := n8_; clear n0_ n1_ n2_ n3_ n4_ n5_ n6_ n7_ n8_; clear hb ho37; have hcz38_0 : w36.cell? ⟨gb861, 0, none⟩ = some (.int .u64 ((rd_T51 x6_1 x34_3).f0.f0)) := (blk_cell BK861.out 0).trans rfl; have hcz38_1 : w36.cell? ⟨gb861, 1, none⟩ = some (.int .u64 ((rd_T51 x6_1 x34_3).f0.f1)) := (blk_cell BK861.out 1).trans rfl; have hcz38_2 : w36.cell? ⟨gb861, 2, none⟩ = some (.slice A860_2 ((rd_T51 x6_1 x34_3).f1).length c860_2) := (blk_cell BK861.out 2).trans rfl; have hfz38_0 := blk_frozen BK861.out 0; have hfz38_1 := blk_frozen BK861.out 1; have hfz38_2 := blk_frozen BK861.out 2) | ((with_reducible refine gate_builtin (b := .append) (xs := #[.tmp 47, .tmp 49]) rfl ?_); at_builtin; refine Kd.R_append_rows (Kd.int .u8) (w0 := w) w.heap.size rfl (.tmp 47) (.tmp 49) 27 5 (.int .u8 0) 1 rfl Tryd.underlying27 info5 rfl (by decide) (by omega) v863 y862 ((rd_T51 x6_1 x34_3).f1) _ _ _ (fun k_ => (w.heap.size ≤ k_)) (fun _ => False) rfl rfl ?aO ?aR (fun _ _ h => h) (fun _ h => h.elim) ?aF ?aB ?aS ?aL ?_; (case aR => repeat (first | exact (by repeat (first | exact HR860_2.out)))); (case aB => exact (by repeat (first | (with_reducible first | exact HB.out)))); (case aF => exact (fun k_ hk => (Nat.le_trans (below_size (by repeat (first | (with_reducible first | exact HB.out)))) hk))); (case aO => exact (by exact Kd.R_mono HO864.out (fun _ hk => hk.1))); (case aS => exact (below_size (by repeat (first | (with_reducible first | exact HB.out))))); (case aL => have := LMc30.out; omega); intro v866 w39 ho hb hg hat; rw [← Ny865.out] at ho; have n0_ := Aside0.mk (Kd.N_afterv (ok := (fun k_ => (P1_ k_ ∨ w.heap.size ≤ k_) ∧ some k_ ≠ (u9 : Value).ownBlock ∧ k_ ≠ gb859 ∧ k_ ≠ gb861)) (by exact Kd.N_mono HO_6.out (fun _ hk => ⟨⟨hk.1.1.1, ⟨hk.1.1.2.1, ⟨hk.1.1.2.2, hk.1.2⟩⟩⟩, hk.2⟩)) hg hat); have n1_ := Aside0.mk (Kd.N_afterv (ok := (fun k_ => (P1_ k_ ∨ w.heap.size ≤ k_) ∧ some k_ ≠ (.slice (some ad860) x6_1.length co20 : Value).ownBlock ∧ some k_ ≠ (.slice (some ad860) x6_1.length co20 : Value).ownBlock ∧ k_ ≠ gb859 ∧ k_ ≠ gb861)) (by exact Kd.N_mono HO_9.out (fun _ hk => ⟨⟨hk.1.1.1, ⟨hk.1.1.2.1, ⟨hk.1.1.2.2.1, ⟨hk.1.1.2.2.2, hk.1.2⟩⟩⟩⟩, hk.2⟩)) hg hat); have n2_ := Aside0.mk (Kd.N_afterv (ok := (fun k_ => (P1_ k_ ∨ w.heap.size ≤ k_) ∧ some k_ ≠ (u9 : Value).ownBlock ∧ k_ ≠ gb859 ∧ k_ ≠ gb861)) (by exact Kd.N_mono HO_32.out (fun _ hk => ⟨⟨hk.1.1.1, ⟨hk.1.1.2.1, ⟨hk.1.1.2.2, hk.1.2⟩⟩⟩, hk.2⟩)) hg hat); have n3_ := Aside0.mk (blk_grown (g := gb859) (o := .cells #[.int .u64 ((rd_T49 l0 x28_2).f0), .int .u64 ((rd_T49 l0 x28_2).f1)] 49 (0, 0)) (by exact BK859.out) hg (Kd.R_ne HO864.out BK859.out (by decide))); have n4_ := Aside0.mk (Kd.V_afterv (ok := (fun k_ => (P1_ k_ ∨ w.heap.size ≤ k_) ∧ some k_ ≠ (u9 : Value).ownBlock ∧ some k_ ≠ (.slice (some ad860) x6_1.length co20 : Value).ownBlock ∧ k_ ≠ gb859 ∧ k_ ≠ gb861)) (by exact Kd.V_mono HL860_2.out (fun _ hk => ⟨⟨hk.1.1.1.1, ⟨hk.1.1.1.2.1, ⟨hk.1.1.2, ⟨hk.1.1.1.2.2, hk.1.2⟩⟩⟩⟩, hk.2⟩)) hg hat); have n5_ := Aside0.mk (blk_grown (g := gb861) (o := .cells #[.int .u64 ((rd_T51 x6_1 x34_3).f0.f0), .int .u64 ((rd_T51 x6_1 x34_3).f0.f1), .slice A860_2 ((rd_T51 x6_1 x34_3).f1).length c860_2] 51 (0, 0)) (by exact BK861.out) hg (Kd.R_ne HO864.out BK861.out (by decide))); have n6_ := Aside0.mk (hb); have n7_ := Aside0.mk (ho); clear HO_6; clear HO_9; clear HO_32; clear BK859; clear HL860_2; clear BK861; clear HB; clear HO864; have HO_6 := n0_; have HO_9 := n1_; have HO_32 := n2_; have BK859 := n3_; have HL860_2 := n4_; have BK861 := n5_; have HB := n6_; have HO867 := n7_; clear n0_ n1_ n2_ n3_ n4_ n5_ n6_ n7_; clear ho hb hg hat; obtain ⟨Ao41, co41, eo41⟩ := Kd.R_slice HO867.out; subst eo41) | ((with_reducible refine gate_builtin (b := .append) (xs := #[.tmp 46, .tmp 51]) rfl ?_); at_builtin; refine Kd.N_append (Kd.slice 5 (Kd.int .u8)) (w0 := w) w.heap.size rfl (.tmp 46) (.tmp 51) 25 27 (.slice none 0 0) 24 rfl Tryd.underlying25 info27 rfl (by decide) (by omega) u9 x9_3 y865 [.slice Ao41 y865.length co41] (fun k_ => (P1_ k_ ∨ w.heap.size ≤ k_) ∧ some k_ ≠ (.slice (some ad860) x6_1.length co20 : Value).ownBlock ∧ some k_ ≠ (.slice (some ad860) x6_1.length co20 : Value).ownBlock ∧ k_ ≠ gb859 ∧ k_ ≠ gb861) (fun k_ => ((fun k_ => (P1_ k_ ∨ w.heap.size ≤ k_) ∧ some k_ ≠ (.slice (some ad860) x6_1.length co20 : Value).ownBlock ∧ some k_ ≠ (.slice (some ad860) x6_1.length co20 : Value).ownBlock ∧ k_ ≠ gb859 ∧ k_ ≠ gb861)) k_ ∧ some k_ ≠ (u9 : Value).ownBlock) rfl rfl ?aP (fun _ hk => hk) ?aF ?aO ?aB ?aS ?aL ?_; (case aP => exact (Kd.FK_slice_mk (Kd.R_reads' (Kd.R_mono (ok' := (fun k_ => ((fun k_ => (P1_ k_ ∨ w.heap.size ≤ k_) ∧ some k_ ≠ (.slice (some ad860) x6_1.length co20 : Value).ownBlock ∧ some k_ ≠ (.slice (some ad860) x6_1.length co20 : Value).ownBlock ∧ k_ ≠ gb859 ∧ k_ ≠ gb861)) k_ ∧ some k_ ≠ (u9 : Value).ownBlock)) (Kd.R_types (Kd.R_types (Kd.R_apart' (Kd.R_apart' (Kd.R_apart' (HO867.out) (Kd.N_typed HO_6.out) (by decide)) (Kd.N_typed HO_32.out) (by decide)) (Kd.N_typed HO_9.out) (by decide)) BK859.out (by decide)) BK861.out (by decide)) (fun k_ hk => ⟨⟨(.inr (hk.1.1.1.1.1)), ⟨hk.1.1.1.1.2, ⟨hk.1.1.1.2, ⟨hk.1.2, hk.2⟩⟩⟩⟩, hk.1.1.2⟩))).2.1 (Kd.R_F (Kd.R_mono (ok' := (fun k_ => ((fun k_ => (P1_ k_ ∨ w.heap.size ≤ k_) ∧ some k_ ≠ (.slice (some ad860) x6_1.length co20 : Value).ownBlock ∧ some k_ ≠ (.slice (some ad860) x6_1.length co20 : Value).ownBlock ∧ k_ ≠ gb859 ∧ k_ ≠ gb861)) k_ ∧ some k_ ≠ (u9 : Value).ownBlock)) (Kd.R_types (Kd.R_types (Kd.R_apart' (Kd.R_apart' (Kd.R_apart' (HO867.out) (Kd.N_typed HO_6.out) (by decide)) (Kd.N_typed HO_32.out) (by decide)) (Kd.N_typed HO_9.out) (by decide)) BK859.out (by decide)) BK861.out (by decide)) (fun k_ hk => ⟨⟨(.inr (hk.1.1.1.1.1)), ⟨hk.1.1.1.1.2, ⟨hk.1.1.1.2, ⟨hk.1.2, hk.2⟩⟩⟩⟩, hk.1.1.2⟩))))); (case aB => exact (by repeat (first | (with_reducible first | exact HB.out)))); (case aF => exact (fun k_ hk => ⟨(.inr (Nat.le_trans (below_size (by repeat (first | (with_reducible first | exact HB.out)))) hk)), Kd.fresh' (Kd.N_lt (by exact HO_6.out)) k_ hk, Kd.fresh' (Kd.N_lt (by exact HO_32.out)) k_ hk, Kd.freshB (g := gb859) (o := .cells #[.int .u64 ((rd_T49 l0 x28_2).f0), .int .u64 ((rd_T49 l0 x28_2).f1)] 49 (0, 0)) (by exact BK859.out) k_ hk, Kd.freshB (g := gb861) (o := .cells #[.int .u64 ((rd_T51 x6_1 x34_3).f0.f0), .int .u64 ((rd_T51 x6_1 x34_3).f0.f1), .slice A860_2 ((rd_T51 x6_1 x34_3).f1).length c860_2] 51 (0, 0)) (by exact BK861.out) k_ hk⟩)); (case aO => exact (by exact Kd.N_mono HO_9.out (fun _ hk => ⟨hk.1.1, ⟨hk.1.2.1, ⟨hk.1.2.2.1, ⟨hk.1.2.2.2.1, hk.1.2.2.2.2⟩⟩⟩⟩))); (case aS => exact (below_size (by repeat (first | (with_reducible first | exact HB.out))))); (case aL => have := LMc31.out; omega); intro v869 w40 ho hb hg hat; rw [← Ny868.out] at ho; have n0_ := Aside0.mk (Kd.N_afterv (ok := (fun k_ => (P1_ k_ ∨ w.heap.size ≤ k_) ∧ some k_ ≠ (.slice Ao41 y865.length co41 : Value).ownBlock ∧ k_ ≠ gb859 ∧ k_ ≠ gb861)) (by exact Kd.N_mono HO_6.out (fun _ hk => ⟨⟨hk.1.1, ⟨hk.2, ⟨hk.1.2.2.1, hk.1.2.2.2⟩⟩⟩, hk.1.2.1⟩)) hg hat); have n1_ := Aside0.mk (Kd.N_afterv (ok := (fun k_ => (P1_ k_ ∨ w.heap.size ≤ k_) ∧ some k_ ≠ (.slice Ao41 y865.length co41 : Value).ownBlock ∧ k_ ≠ gb859 ∧ k_ ≠ gb861)) (by exact Kd.N_mono HO_32.out (fun _ hk => ⟨⟨hk.1.1, ⟨hk.2, ⟨hk.1.2.2.1, hk.1.2.2.2⟩⟩⟩, hk.1.2.1⟩)) hg hat); have n2_ := Aside0.mk (blk_grown (g := gb859) (o := .cells #[.int .u64 ((rd_T49 l0 x28_2).f0), .int .u64 ((rd_T49 l0 x28_2).f1)] 49 (0, 0)) (by exact BK859.out) hg (Kd.N_ne HO_9.out BK859.out (by decide))); have n3_ := Aside0.mk (Kd.V_afterv (ok := (fun k_ => (P1_ k_ ∨ w.heap.size ≤ k_) ∧ some k_ ≠ (.slice (some ad860) x6_1.length co20 : Value).ownBlock ∧ some k_ ≠ (.slice Ao41 y865.length co41 : Value).ownBlock ∧ k_ ≠ gb859 ∧ k_ ≠ gb861)) (by exact Kd.V_mono HL860_2.out (fun _ hk => ⟨⟨hk.1.1, ⟨hk.1.2.2.1, ⟨hk.2, ⟨hk.1.2.2.2.1, hk.1.2.2.2.2⟩⟩⟩⟩, hk.1.2.1⟩)) hg hat); have n4_ := Aside0.mk (blk_grown (g := gb861) (o := .cells #[.int .u64 ((rd_T51 x6_1 x34_3).f0.f0), .int .u64 ((rd_T51 x6_1 x34_3).f0.f1), .slice A860_2 ((rd_T51 x6_1 x34_3).f1).length c860_2] 51 (0, 0)) (by exact BK861.out) hg (Kd.N_ne HO_9.out BK861.out (by decide))); have n5_ := Aside0.mk (hb); have n6_ := Aside0.mk (ho); clear HO_6; clear HO_32; clear BK859; clear HL860_2; clear BK861; clear HB; clear HO_9; clear HO867; have HO_6 := n0_; have HO_32 := n1_; have BK859 := n2_; have HL860_2 := n3_; have BK861 := n4_; have HB := n5_; have HO870 := n6_; clear n0_ n1_ n2_ n3_ n4_ n5_ n6_; clear ho hb hg hat))
                  go_roundg k3
                  case measure => have := HK1.out; have := HK2.out; have := HK3.out; omega
                  case rel => exact ⟨(y868), (true), (wrap64 (x34_3 + 1)), (by first | rfl), (by first | rfl), H', ⟨by have := HK1.out; have := HK2.out; have := HK3.out; omega⟩, ⟨by exact Kd.N_mono HO_6.out (fun _ hk => ⟨hk.1.1, ⟨hk.2, hk.1.2.2.1⟩⟩)⟩, ⟨by exact Kd.N_mono HO870.out (fun _ hk => ⟨hk.1, ⟨hk.2.1, ⟨hk.2.2.1, hk.2.2.2.1⟩⟩⟩)⟩, ⟨by exact Kd.N_mono HO_32.out (fun _ hk => ⟨hk.1.1, ⟨hk.2, hk.1.2.2.1⟩⟩)⟩, ⟨by exact BK859.out⟩, ⟨by repeat (first | (with_reducible first | exact HB.out))⟩⟩
                 ·rw [if_neg c31] at H
                  exact absurd H (by simp)
                ·rw [if_neg c30] at H
                 exact absurd H (by simp)
              ·rw [if_neg c24] at H
               have c24b0 : (((rd_T51 x6_1 x34_3).f0.f0) == ((rd_T49 l0 x28_2).f0) && (((rd_T51 x6_1 x34_3).f0.f1) == ((rd_T49 l0 x28_2).f1))) = false := by simpa using c24
               (try (have c24b1 : decide (((rd_T51 x6_1 x34_3).f0.f0) = ((rd_T49 l0 x28_2).f0) && (((rd_T51 x6_1 x34_3).f0.f1) == ((rd_T49 l0 x28_2).f1))) = false := by simpa using c24))
               (try (have c24b2 : (((rd_T51 x6_1 x34_3).f0.f0) == ((rd_T49 l0 x28_2).f0) && (((rd_T51 x6_1 x34_3).f0.f1) == ((rd_T49 l0 x28_2).f1))) = false := by simpa using c24))
               (try (have c24b3 : ¬ (((rd_T51 x6_1 x34_3).f0.f0) = ((rd_T49 l0 x28_2).f0) && (((rd_T51 x6_1 x34_3).f0.f1) == ((rd_T49 l0 x28_2).f1))) := by simpa using c24))
               clear c24
               have H' := Aside0.mk H
               clear H
               have p860 : 0 ≤ (x34_3 : Int) := of_decide_eq_true (by first | (with_reducible assumption))
               have q860 : x34_3 < (x6_1.length : Int) := of_decide_eq_true (by first | (with_reducible assumption))
               obtain ⟨ad860, A860_2, c860_2, e860, hx860_0, hx860_1, hx860_2, hl860_2, hi860_2⟩ := at_T51 (Kd.N_reads' HO_32.out).2.2 x34_3 p860 q860
               cases e860
               obtain ⟨ce860, hce860, hMe860, hcc860⟩ := Kd.N_get HO_32.out z51 x34_3 p860 (by first | exact q860)
               obtain ⟨ua860_2, uc860_2, rfl, ul860_2, ge860_2⟩ := k51_openF hMe860
               have hv860_2 := hcc860 2 _ rfl
               rw [add_field _ _ 2 (by omega)] at hv860_2
               replace hv860_2 := Option.some.inj (hv860_2.symm.trans hx860_2)
               injection hv860_2 with hva_ hvn_ hvc_
               rw [hva_] at ge860_2
               rw [hvc_] at ul860_2
               have HL860_2 := Aside0.mk (show Kd.V (Kd.int .u8) 5 _ w.heap.size _ _ ((rd_T51 x6_1 x34_3).f1) from Kd.V_mk ul860_2 ge860_2)
               clear hva_ hvn_ hvc_ ge860_2 ul860_2
               clear hcc860 hce860
               have HR860_2 := Aside0.mk hi860_2
               have HC860_2 := Aside0.mk hl860_2
               clear hi860_2 hl860_2
               replace p860 := eq_true p860
               replace q860 := eq_true q860
               go_wp2_with (first | ((with_reducible refine gate_dst (N := 14) rfl ?_); refine box_event ?hg (N := 14) ?hd (cs := #[.int .u64 0, .int .u64 0, .slice none 0 0]) (t := 51) ?hr ?_; (case hd => rfl); (case hg => rfl); (case hr => first | (go_simp; done)); intro gb861 hg w42 hbox hb; have n0_ := Aside0.mk (Kd.N_below (Kd.N_elderB (by exact HO_6.out) gb861 (Nat.le_of_eq hg.symm)) hb); have n1_ := Aside0.mk (Kd.N_below (Kd.N_elderB (by exact HO_9.out) gb861 (Nat.le_of_eq hg.symm)) hb); have n2_ := Aside0.mk (Kd.N_below (Kd.N_elderB (by exact HO_32.out) gb861 (Nat.le_of_eq hg.symm)) hb); have n3_ := Aside0.mk (Kd.V_below (Kd.V_elderB (by exact HL860_2.out) gb861 (Nat.le_of_eq hg.symm)) hb); have n4_ := Aside0.mk (blk_below (g := gb859) (o := .cells #[.int .u64 ((rd_T49 l0 x28_2).f0), .int .u64 ((rd_T49 l0 x28_2).f1)] 49 (0, 0)) (by exact BK859.out) hb); have n5_ := Aside0.mk (Kd.C_below (by repeat (first | (with_reducible exact HR860_2.out))) hb); have n6_ := Aside0.mk (below_step (by repeat (first | (with_reducible first | exact HB.out))) hb); have n7_ := Aside0.mk (hbox); have n8_ := Aside0.mk ((by rw [hg]; exact (below_size (by repeat (first | (with_reducible first | exact HB.out)))) : w.heap.size ≤ gb861)); have n9_ := Aside0.mk ((by rw [hg]; exact (below_size (by repeat (first | (with_reducible first | exact HB.out)))) : w.heap.size ≤ gb861)); have n10_ := Aside0.mk ((by rw [hg]; exact Nat.ne_of_lt (blk_lt (g := gb859) (o := .cells #[.int .u64 ((rd_T49 l0 x28_2).f0), .int .u64 ((rd_T49 l0 x28_2).f1)] 49 (0, 0)) (by exact BK859.out)) : gb859 ≠ gb861)); have n11_ := Aside0.mk ((by rw [hg]; exact Nat.ne_of_gt (blk_lt (g := gb859) (o := .cells #[.int .u64 ((rd_T49 l0 x28_2).f0), .int .u64 ((rd_T49 l0 x28_2).f1)] 49 (0, 0)) (by exact BK859.out)) : gb861 ≠ gb859)); clear HO_6; clear HO_9; clear HO_32; clear HL860_2; clear BK859; clear HR860_2; clear HB; have HO_6 := n0_; have HO_9 := n1_; have HO_32 := n2_; have HL860_2 := n3_; have BK859 := n4_; have HR860_2 := n5_; have HB := n6_; have BK861 := n7_; have GW861 := n8_; have GE861 := n9_; have NB859_861 := n10_; have NB861_859 := n11_; clear n0_ n1_ n2_ n3_ n4_ n5_ n6_ n7_ n8_ n9_ n10_ n11_; clear hb hbox hg; have hnb43 := NB861_859.out; have hnc43 := NB859_861.out; have hcz44_0 : w42.cell? ⟨gb861, 0, none⟩ = some (.int .u64 0) := (blk_cell BK861.out 0).trans rfl; have hcz44_1 : w42.cell? ⟨gb861, 1, none⟩ = some (.int .u64 0) := (blk_cell BK861.out 1).trans rfl; have hcz44_2 : w42.cell? ⟨gb861, 2, none⟩ = some (.slice none 0 0) := (blk_cell BK861.out 2).trans rfl; have hfz44_0 := blk_frozen BK861.out 0; have hfz44_1 := blk_frozen BK861.out 1; have hfz44_2 := blk_frozen BK861.out 2; have hcz45_0 : w42.cell? ⟨gb859, 0, none⟩ = some (.int .u64 ((rd_T49 l0 x28_2).f0)) := (blk_cell BK859.out 0).trans rfl; have hcz45_1 : w42.cell? ⟨gb859, 1, none⟩ = some (.int .u64 ((rd_T49 l0 x28_2).f1)) := (blk_cell BK859.out 1).trans rfl; have hfz45_0 := blk_frozen BK859.out 0; have hfz45_1 := blk_frozen BK859.out 1))
               go_roundg k3
               case measure => have := HK1.out; have := HK2.out; have := HK3.out; omega
               case rel => exact ⟨(x9_3), (x12_3), (wrap64 (x34_3 + 1)), (by first | rfl), (by first | rfl), H', ⟨by have := HK1.out; have := HK2.out; have := HK3.out; omega⟩, ⟨by exact Kd.N_mono (Kd.N_far (p := ⟨gb861, 2, none⟩) (Kd.N_far (p := ⟨gb861, 1, none⟩) (Kd.N_far (p := ⟨gb861, 0, none⟩) (Kd.N_mono HO_6.out (fun k_ hk => (⟨hk, hk.2⟩ : _ ∧ k_ ≠ gb861))) (fun _ hk => hk.2) (.int .u64 ((rd_T51 x6_1 x34_3).f0.f0))) (fun _ hk => hk.2) (.int .u64 ((rd_T51 x6_1 x34_3).f0.f1))) (fun _ hk => hk.2) (.slice A860_2 ((rd_T51 x6_1 x34_3).f1).length c860_2)) (fun _ hk => ⟨hk.1.1.1, ⟨hk.1.1.2.1, hk.1.1.2.2⟩⟩)⟩, ⟨by exact Kd.N_mono (Kd.N_far (p := ⟨gb861, 2, none⟩) (Kd.N_far (p := ⟨gb861, 1, none⟩) (Kd.N_far (p := ⟨gb861, 0, none⟩) (Kd.N_mono HO_9.out (fun k_ hk => (⟨hk, hk.2⟩ : _ ∧ k_ ≠ gb861))) (fun _ hk => hk.2) (.int .u64 ((rd_T51 x6_1 x34_3).f0.f0))) (fun _ hk => hk.2) (.int .u64 ((rd_T51 x6_1 x34_3).f0.f1))) (fun _ hk => hk.2) (.slice A860_2 ((rd_T51 x6_1 x34_3).f1).length c860_2)) (fun _ hk => ⟨hk.1.1.1, ⟨hk.1.1.2.1, ⟨hk.1.1.2.2.1, hk.1.1.2.2.2⟩⟩⟩)⟩, ⟨by exact Kd.N_mono (Kd.N_far (p := ⟨gb861, 2, none⟩) (Kd.N_far (p := ⟨gb861, 1, none⟩) (Kd.N_far (p := ⟨gb861, 0, none⟩) (Kd.N_mono HO_32.out (fun k_ hk => (⟨hk, hk.2⟩ : _ ∧ k_ ≠ gb861))) (fun _ hk => hk.2) (.int .u64 ((rd_T51 x6_1 x34_3).f0.f0))) (fun _ hk => hk.2) (.int .u64 ((rd_T51 x6_1 x34_3).f0.f1))) (fun _ hk => hk.2) (.slice A860_2 ((rd_T51 x6_1 x34_3).f1).length c860_2)) (fun _ hk => ⟨hk.1.1.1, ⟨hk.1.1.2.1, hk.1.1.2.2⟩⟩)⟩, ⟨by refine blk_far ?_ NB859_861.out _; refine blk_far ?_ NB859_861.out _; refine blk_far ?_ NB859_861.out _; exact BK859.out⟩, ⟨by repeat (first | (with_reducible first | exact HB.out | refine below_set ?_ GE861.out))⟩⟩
             ·rw [if_neg c23] at H
              exact absurd H (by simp)
            ·rw [if_neg c22] at H
             exact absurd H (by simp)
           ·rw [if_neg c21] at H
            have c21b0 : decide (x34_3 < (x6_1.length : Int)) = false := decide_eq_false c21
            clear c21
            by_cases c46 : x12_3 = true
            ·subst c46
             have H1 : (laws_growthHashes.l1 k3 x6_1 x9_3 l0 (l0.length : Int) (wrap64 (x28_2 + 1))) = some (r1, r2) := by rw [if_pos rfl] at H; exact H
             clear H
             have H := H1
             clear H1
             have H' := Aside0.mk H
             clear H
             go_wp2
             go_roundg k3
             case measure => have := HK1.out; have := HK2.out; have := HK3.out; omega
             case rel => exact ⟨(x9_3), (wrap64 (x28_2 + 1)), (by first | rfl), H', ⟨by have := HK1.out; have := HK2.out; have := HK3.out; omega⟩, ⟨by exact Kd.N_mono HO_6.out (fun _ hk => ⟨hk.1, hk.2.1⟩)⟩, ⟨by exact Kd.N_mono HO_9.out (fun _ hk => ⟨hk.1, hk.2.1⟩)⟩, ⟨by repeat (first | (with_reducible first | exact HB.out))⟩⟩
            ·replace c46 := Bool.eq_false_iff.mpr c46
             subst c46
             have H1 : (some (([] : List (List Int)), false)) = some (r1, r2) := by rw [if_neg (show ¬ (false = true) by decide)] at H; exact H
             clear H
             have H := H1
             clear H1
             simp only [Option.some.injEq, Prod.mk.injEq] at H
             obtain ⟨rfl, rfl⟩ := H
             go_wp2
             go_ret2
             exact ⟨_, by first | rfl, by first | exact Kd.N_nil _ _ _ _ _, by repeat (first | (with_reducible first | exact HB.out))⟩
        ·rw [if_neg c17] at H
         exact absurd H (by simp)
       ·rw [if_neg c16] at H
        exact absurd H (by simp)
      ·rw [if_neg c15] at H
       have c15b0 : decide (x28_2 < (l0.length : Int)) = false := decide_eq_false c15
       clear c15
       simp only [Option.some.injEq, Prod.mk.injEq] at H
       obtain ⟨rfl, rfl⟩ := H
       go_wp2
       go_ret2
       exact ⟨_, by first | rfl, by exact Kd.N_mono HO_9.out (fun _ hk => hk.1), by repeat (first | (with_reducible first | exact HB.out))⟩
end Go.Proofs.YtielnphmcaecdaaDoor.PAll
