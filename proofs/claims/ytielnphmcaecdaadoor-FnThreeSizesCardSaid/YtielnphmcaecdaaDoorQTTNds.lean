-- Written by a program of this session (wip/tools)
import Derived.Test.YtielnphmcaecdaaDoorQTTTreeMem
import Derived.Test.YtielnphmcaecdaaDoorQTTPAllx6
import Derived.Test.YtielnphmcaecdaaDoorQTTExtTz
import Derived.Test.YtielnphmcaecdaaDoorQTTExtTreeB
import Derived.Laws.Bits128
import Derived.KernelRfl
set_option maxHeartbeats 8000000
set_option maxRecDepth 100000
set_option linter.unusedVariables false
set_option linter.unusedSimpArgs false
namespace Go.Proofs.YtielnphmcaecdaaDoor.PAll
open Go.RowKit Go.Proofs.YtielnphmcaecdaaDoorW.PrintWords Go.Proofs.YtielnphmcaecdaaDoorW.PrintLast Go.Proofs.YtielnphmcaecdaaDoorW.PrintMore
attribute [local go_sem] max2_int min2_int max_two min_two max_three min_three max_four min_four   -- for this text's walks alone
mutual
def spec_Nodes.l0 : Nat → List (S49) → Int → Int → Option ((List (S49)))
 | 0, _, _, _ => none
 | k + 1, x3, x290000, x290001 => if x290000 < x290001 then (spec_Nodes.l1 k x3 0 x290000 x290001) else (some x3)
def spec_Nodes.l1 : Nat → List (S49) → Int → Int → Int → Option ((List (S49)))
 | 0, _, _, _, _ => none
 | k + 1, x3, x4, x290000, x290001 => if x4 < 63 then (if 0 ≤ x4 then (if (Go.bits .and .u64 (shr .u64 x290000 x4) 1) = 0 then (if 0 ≤ (IntKind.u64.wrap (x4 + 1)) then (if (shl .u64 1 (IntKind.u64.wrap (x4 + 1))) ≤ (IntKind.u64.wrap (x290001 - x290000)) then (spec_Nodes.l1 k x3 (IntKind.u64.wrap (x4 + 1)) x290000 x290001) else (if x3.length < 8796093022208 then (spec_Nodes.l0 k (x3 ++ [(⟨x4, shr .u64 x290000 x4⟩ : S49)]) (IntKind.u64.wrap (x290000 + (shl .u64 1 x4))) x290001) else (none))) else (none)) else (if x3.length < 8796093022208 then (spec_Nodes.l0 k (x3 ++ [(⟨x4, shr .u64 x290000 x4⟩ : S49)]) (IntKind.u64.wrap (x290000 + (shl .u64 1 x4))) x290001) else (none))) else (none)) else (if 0 ≤ x4 then (if x3.length < 8796093022208 then (spec_Nodes.l0 k (x3 ++ [(⟨x4, shr .u64 x290000 x4⟩ : S49)]) (IntKind.u64.wrap (x290000 + (shl .u64 1 x4))) x290001) else (none)) else (none))
end
def spec_Nodes.f (k : Nat) (a0_0 : Int) (a0_1 : Int) : Option ((List (S49))) := spec_Nodes.l0 k ([] : List (S49)) a0_0 a0_1
theorem spec_Nodes.calls (k : Nat) (a0_0 : Int) (a0_1 : Int) (r : List (S49)) (w : World) (h : spec_Nodes.f k a0_0 a0_1 = some r) :
 Calls Tryd.prog 81 #[.agg #[.int .u64 a0_0, .int .u64 a0_1]] w fun e w' => ∃ v0_ : Value, e = .returned (v0_) ∧ Kd.R k49 49 w' w.heap.size (fun _ => True) v0_ r ∧ Below w.heap.size w w' := by
 have hu53 := Tryd.underlying53
 have hu49 := Tryd.underlying49
 have HB := Aside0.mk (Below.refl w.heap.size w)
 have H : (spec_Nodes.l0 k ([] : List (S49)) a0_0 a0_1) = some r := h
 clear h
 have H' := Aside0.mk H
 clear H
 go_enter Tryd.func81, Tryd.ntmps81
 go_wp2_with (first | ((with_reducible refine gate_dst (N := 1) rfl ?_); refine box_event ?hg (N := 1) ?hd (cs := #[.int .u64 a0_0, .int .u64 a0_1]) (t := 53) ?hr ?_; (case hd => rfl); (case hg => rfl); (case hr => first | (go_simp; done)); intro gb289 hg w2 hbox hb; have n0_ := Aside0.mk (below_step (by repeat (first | (with_reducible first | exact HB.out))) hb); have n1_ := Aside0.mk (hbox); have n2_ := Aside0.mk ((by rw [hg]; exact (below_size (by repeat (first | (with_reducible first | exact HB.out)))) : w.heap.size ≤ gb289)); have n3_ := Aside0.mk ((by rw [hg]; exact (below_size (by repeat (first | (with_reducible first | exact HB.out)))) : w.heap.size ≤ gb289)); clear HB; have HB := n0_; have BK289 := n1_; have GW289 := n2_; have GE289 := n3_; clear n0_ n1_ n2_ n3_; clear hb hbox hg))
 try simp only [Act.put, List.setIfInBounds_toArray, List.set_cons_zero, List.set_cons_succ]
 go_loopg [3] k (fun kq v3 w' => ∃ (x3_1 : List (S49)) (x290000_1 : Int), Aside0 (spec_Nodes.l0 kq x3_1 x290000_1 a0_1 = some r) ∧ Aside0 (kq ≤ k) ∧ Aside0 (Kd.R k49 49 w' w.heap.size (fun _ => True) v3 x3_1) ∧ Aside0 (w'.heap[gb289]? = some (.cells #[.int .u64 x290000_1, .int .u64 a0_1] 53 (0, 0))) ∧ Aside0 (Below w.heap.size w w'))
 case atStart => exact ⟨(([] : List (S49))), (a0_0), H', ⟨Nat.le_refl _⟩, ⟨by first | exact Kd.R_nil _ _ _ _ _⟩, ⟨by exact BK289.out⟩, ⟨by repeat (first | (with_reducible first | exact HB.out))⟩⟩
 case round =>
  clear H'
  try clear p2
  obtain ⟨x3_1, x290000_1, HA, HK1, HO_3, BK289, HB⟩ := hrel
  cases gk with
  | zero => exact absurd HA.out (by simp [spec_Nodes.l0])
  | succ k1 =>
   have H := HA.out
   clear HA
   simp only [spec_Nodes.l0] at H
   by_cases c3 : x290000_1 < a0_1
   ·rw [if_pos c3] at H
    have c3b0 : decide (x290000_1 < a0_1) = true := decide_eq_true c3
    clear c3
    have H' := Aside0.mk H
    clear H
    have hcz4_0 : wr.cell? ⟨gb289, 0, none⟩ = some (.int .u64 x290000_1) := (blk_cell BK289.out 0).trans rfl
    have hcz4_1 : wr.cell? ⟨gb289, 1, none⟩ = some (.int .u64 a0_1) := (blk_cell BK289.out 1).trans rfl
    have hfz4_0 := blk_frozen BK289.out 0
    have hfz4_1 := blk_frozen BK289.out 1
    go_wp2
    try simp only [Act.put, List.setIfInBounds_toArray, List.set_cons_zero, List.set_cons_succ]
    go_loopg [4] k1 (fun kq v4 w' => ∃ (x4_2 : Int), v4 = .int .u64 x4_2 ∧ Aside0 (spec_Nodes.l1 kq x3_1 x4_2 x290000_1 a0_1 = some r) ∧ Aside0 (kq ≤ k1) ∧ Aside0 (Kd.R k49 49 w' w.heap.size (fun _ => True) u3 x3_1) ∧ Aside0 (w'.heap[gb289]? = some (.cells #[.int .u64 x290000_1, .int .u64 a0_1] 53 (0, 0))) ∧ Aside0 (Below w.heap.size w w'))
    case atStart => exact ⟨(0), (by first | rfl), H', ⟨Nat.le_refl _⟩, ⟨by exact HO_3.out⟩, ⟨by exact BK289.out⟩, ⟨by repeat (first | (with_reducible first | exact HB.out))⟩⟩
    case round =>
     clear H'
     try clear p2
     try clear c3
     try clear c3b0
     try clear hcz4_0
     try clear hcz4_1
     try clear hfz4_0
     try clear hfz4_1
     try clear p2
     obtain ⟨x4_2, rfl, HA, HK2, HO_3, BK289, HB⟩ := hrel
     cases gk with
     | zero => exact absurd HA.out (by simp [spec_Nodes.l1])
     | succ k2 =>
      have H := HA.out
      clear HA
      simp only [spec_Nodes.l1] at H
      by_cases c5 : x4_2 < 63
      ·rw [if_pos c5] at H
       have c5b0 : decide (x4_2 < 63) = true := decide_eq_true c5
       clear c5
       by_cases c6 : 0 ≤ x4_2
       ·rw [if_pos c6] at H
        have c6b0 := eq_true c6
        have c6b1 : decide (0 ≤ x4_2) = true := decide_eq_true c6
        clear c6
        obtain ⟨ji7, hji7⟩ : ∃ j_ : Int, (shr .u64 x290000_1 x4_2) = j_ := ⟨_, rfl⟩
        replace H : (if (Go.bits .and .u64 (ji7) 1) = 0 then (if 0 ≤ (IntKind.u64.wrap (x4_2 + 1)) then (if (shl .u64 1 (IntKind.u64.wrap (x4_2 + 1))) ≤ (IntKind.u64.wrap (a0_1 - x290000_1)) then (spec_Nodes.l1 k2 x3_1 (IntKind.u64.wrap (x4_2 + 1)) x290000_1 a0_1) else (if x3_1.length < 8796093022208 then (spec_Nodes.l0 k2 (x3_1 ++ [(⟨x4_2, ji7⟩ : S49)]) (IntKind.u64.wrap (x290000_1 + (shl .u64 1 x4_2))) a0_1) else (none))) else (none)) else (if x3_1.length < 8796093022208 then (spec_Nodes.l0 k2 (x3_1 ++ [(⟨x4_2, ji7⟩ : S49)]) (IntKind.u64.wrap (x290000_1 + (shl .u64 1 x4_2))) a0_1) else (none))) = some r := by first | (rw [hji7] at H; exact H)
        have hji7_ : (x290000_1 / 2 ^ min x4_2.toNat 64) = ji7 := hji7
        have hji7z : x4_2 ≤ 64 → (x290000_1 / 2 ^ x4_2.toNat) = ji7 := shr_small hji7
        by_cases c8 : (Go.bits .and .u64 (ji7) 1) = 0
        ·rw [if_pos c8] at H
         have c8b0 : ((Go.bits .and .u64 (ji7) 1) == 0) = true := beq_iff_eq.mpr c8
         have c8b1 : ((Go.bits .and .u64 (ji7) 1) != 0) = false := bne_eq_false_iff_eq.mpr c8
         clear c8
         obtain ⟨ji9, hji9⟩ : ∃ j_ : Int, (IntKind.u64.wrap (x4_2 + 1)) = j_ := ⟨_, rfl⟩
         replace H : (if 0 ≤ (ji9) then (if (shl .u64 1 (ji9)) ≤ (IntKind.u64.wrap (a0_1 - x290000_1)) then (spec_Nodes.l1 k2 x3_1 ji9 x290000_1 a0_1) else (if x3_1.length < 8796093022208 then (spec_Nodes.l0 k2 (x3_1 ++ [(⟨x4_2, ji7⟩ : S49)]) (IntKind.u64.wrap (x290000_1 + (shl .u64 1 x4_2))) a0_1) else (none))) else (none)) = some r := by first | (rw [hji9] at H; exact H)
         by_cases c10 : 0 ≤ (ji9)
         ·rw [if_pos c10] at H
          have c10b0 := eq_true c10
          have c10b1 : decide (0 ≤ (ji9)) = true := decide_eq_true c10
          clear c10
          obtain ⟨ji11, hji11⟩ : ∃ j_ : Int, (shl .u64 1 (ji9)) = j_ := ⟨_, rfl⟩
          replace H : (if (ji11) ≤ (IntKind.u64.wrap (a0_1 - x290000_1)) then (spec_Nodes.l1 k2 x3_1 ji9 x290000_1 a0_1) else (if x3_1.length < 8796093022208 then (spec_Nodes.l0 k2 (x3_1 ++ [(⟨x4_2, ji7⟩ : S49)]) (IntKind.u64.wrap (x290000_1 + (shl .u64 1 x4_2))) a0_1) else (none))) = some r := by first | (rw [hji11] at H; exact H)
          have hji11_ : (IntKind.u64.wrap (1 * 2 ^ min (ji9).toNat 64)) = ji11 := hji11
          have hji11z : (ji9) ≤ 64 → (IntKind.u64.wrap (1 * 2 ^ (ji9).toNat)) = ji11 := shl_small hji11
          have hji11u : (IntKind.u64.wrap (2 ^ min (ji9).toNat 64)) = ji11 := by have h_ := hji11_; rw [Int.one_mul] at h_; exact h_
          have hji11v : (ji9) ≤ 64 → (IntKind.u64.wrap (2 ^ (ji9).toNat)) = ji11 := fun hle_ => by have h_ := hji11z hle_; rw [Int.one_mul] at h_; exact h_
          by_cases c12 : (ji11) ≤ (IntKind.u64.wrap (a0_1 - x290000_1))
          ·rw [if_pos c12] at H
           have c12b0 : decide ((ji11) ≤ (IntKind.u64.wrap (a0_1 - x290000_1))) = true := decide_eq_true c12
           clear c12
           have H' := Aside0.mk H
           clear H
           have hcz13_0 : wr.cell? ⟨gb289, 0, none⟩ = some (.int .u64 x290000_1) := (blk_cell BK289.out 0).trans rfl
           have hcz13_1 : wr.cell? ⟨gb289, 1, none⟩ = some (.int .u64 a0_1) := (blk_cell BK289.out 1).trans rfl
           have hfz13_0 := blk_frozen BK289.out 0
           have hfz13_1 := blk_frozen BK289.out 1
           go_wp2
           go_roundg k2
           case measure => have := HK1.out; have := HK2.out; omega
           case rel => exact ⟨(ji9), (by first | rfl), H', ⟨by have := HK1.out; have := HK2.out; omega⟩, ⟨by exact HO_3.out⟩, ⟨by exact BK289.out⟩, ⟨by repeat (first | (with_reducible first | exact HB.out))⟩⟩
          ·rw [if_neg c12] at H
           have c12b0 : decide ((ji11) ≤ (IntKind.u64.wrap (a0_1 - x290000_1))) = false := decide_eq_false c12
           clear c12
           have c14b0 := eq_true (of_decide_eq_true (by first | (with_reducible assumption)) : 0 ≤ x4_2)
           by_cases c15 : x3_1.length < 8796093022208
           ·rw [if_pos c15] at H
            have LMc15 := Aside0.mk c15
            clear c15
            obtain ⟨y290, hy290⟩ : ∃ y_ : List (S49), y_ = (x3_1 ++ [(⟨x4_2, ji7⟩ : S49)]) := ⟨_, rfl⟩
            replace H : (spec_Nodes.l0 k2 y290 (IntKind.u64.wrap (x290000_1 + (shl .u64 1 x4_2))) a0_1) = some r := by first | (rw [hy290]; with_reducible exact H)
            have Ny290 := Aside0.mk hy290
            clear hy290
            have c16b0 := eq_true (of_decide_eq_true (by first | (with_reducible assumption)) : 0 ≤ x4_2)
            obtain ⟨ji17, hji17⟩ : ∃ j_ : Int, (shl .u64 1 x4_2) = j_ := ⟨_, rfl⟩
            replace H : (spec_Nodes.l0 k2 y290 (IntKind.u64.wrap (x290000_1 + (ji17))) a0_1) = some r := by first | (rw [hji17] at H; exact H)
            have hji17_ : (IntKind.u64.wrap (1 * 2 ^ min x4_2.toNat 64)) = ji17 := hji17
            have hji17z : x4_2 ≤ 64 → (IntKind.u64.wrap (1 * 2 ^ x4_2.toNat)) = ji17 := shl_small hji17
            have hji17u : (IntKind.u64.wrap (2 ^ min x4_2.toNat 64)) = ji17 := by have h_ := hji17_; rw [Int.one_mul] at h_; exact h_
            have hji17v : x4_2 ≤ 64 → (IntKind.u64.wrap (2 ^ x4_2.toNat)) = ji17 := fun hle_ => by have h_ := hji17z hle_; rw [Int.one_mul] at h_; exact h_
            have H' := Aside0.mk H
            clear H
            have hcz18_0 : wr.cell? ⟨gb289, 0, none⟩ = some (.int .u64 x290000_1) := (blk_cell BK289.out 0).trans rfl
            have hcz18_1 : wr.cell? ⟨gb289, 1, none⟩ = some (.int .u64 a0_1) := (blk_cell BK289.out 1).trans rfl
            have hfz18_0 := blk_frozen BK289.out 0
            have hfz18_1 := blk_frozen BK289.out 1
            go_wp2_with (first | ((with_reducible refine gate_builtin (b := .append) (xs := #[.tmp 33, .tmp 40]) rfl ?_); at_builtin; refine Kd.R_append k49 (w0 := w) w.heap.size rfl (.tmp 33) (.tmp 40) 59 49 (.agg #[(.int .u64 0), (.int .u64 0)]) 16 rfl Tryd.underlying59 info49 rfl (by decide) (by omega) u3 x3_1 (⟨x4_2, ji7⟩ : S49) [.int .u64 x4_2, .int .u64 ji7] (fun _ => True) (fun _ => False) rfl rfl ?aP (fun _ hk => hk.elim) ?aF ?aO ?aB ?aS ?aL ?_; (case aP => exact k49_mkM _ _ _ (⟨x4_2, ji7⟩ : S49)); (case aB => exact (by repeat (first | (with_reducible first | exact HB.out)))); (case aF => exact (fun _ _ => trivial)); (case aO => exact (by exact HO_3.out)); (case aS => exact (below_size (by repeat (first | (with_reducible first | exact HB.out))))); (case aL => have := LMc15.out; omega); intro v291 w19 ho hb hg hat; rw [← Ny290.out] at ho; have n0_ := Aside0.mk (blk_grown (g := gb289) (o := .cells #[.int .u64 x290000_1, .int .u64 a0_1] 53 (0, 0)) (by exact BK289.out) hg (Kd.R_ne HO_3.out BK289.out (by decide))); have n1_ := Aside0.mk (hb); have n2_ := Aside0.mk (ho); clear BK289; clear HB; clear HO_3; have BK289 := n0_; have HB := n1_; have HO292 := n2_; clear n0_ n1_ n2_; clear ho hb hg hat; have hcz20_0 : w19.cell? ⟨gb289, 0, none⟩ = some (.int .u64 x290000_1) := (blk_cell BK289.out 0).trans rfl; have hcz20_1 : w19.cell? ⟨gb289, 1, none⟩ = some (.int .u64 a0_1) := (blk_cell BK289.out 1).trans rfl; have hfz20_0 := blk_frozen BK289.out 0; have hfz20_1 := blk_frozen BK289.out 1))
            go_roundg k2
            case measure => have := HK1.out; have := HK2.out; omega
            case rel => exact ⟨(y290), (IntKind.u64.wrap (x290000_1 + (ji17))), H', ⟨by have := HK1.out; have := HK2.out; omega⟩, ⟨by exact Kd.R_mono (Kd.R_far (p := ⟨gb289, 0, none⟩) (Kd.R_types HO292.out BK289.out (by decide)) (fun _ hk => hk.2) (.int .u64 (IntKind.u64.wrap (x290000_1 + (ji17))))) (fun _ hk => trivial)⟩, ⟨by refine blk_put (cs := #[.int .u64 x290000_1, .int .u64 a0_1]) ?_ 0 _ rfl; exact BK289.out⟩, ⟨by repeat (first | (with_reducible first | exact HB.out | refine below_set ?_ GE289.out))⟩⟩
           ·rw [if_neg c15] at H
            exact absurd H (by simp)
         ·rw [if_neg c10] at H
          exact absurd H (by simp)
        ·rw [if_neg c8] at H
         have c8b0 : ((Go.bits .and .u64 (ji7) 1) == 0) = false := beq_eq_false_iff_ne.mpr c8
         have c8b1 : ((Go.bits .and .u64 (ji7) 1) != 0) = true := bne_iff_ne.mpr c8
         have c21b0 := eq_true (of_decide_eq_true (by first | (with_reducible assumption)) : 0 ≤ x4_2)
         by_cases c22 : x3_1.length < 8796093022208
         ·rw [if_pos c22] at H
          have LMc22 := Aside0.mk c22
          clear c22
          obtain ⟨y293, hy293⟩ : ∃ y_ : List (S49), y_ = (x3_1 ++ [(⟨x4_2, ji7⟩ : S49)]) := ⟨_, rfl⟩
          replace H : (spec_Nodes.l0 k2 y293 (IntKind.u64.wrap (x290000_1 + (shl .u64 1 x4_2))) a0_1) = some r := by first | (rw [hy293]; with_reducible exact H)
          have Ny293 := Aside0.mk hy293
          clear hy293
          have c23b0 := eq_true (of_decide_eq_true (by first | (with_reducible assumption)) : 0 ≤ x4_2)
          obtain ⟨ji24, hji24⟩ : ∃ j_ : Int, (shl .u64 1 x4_2) = j_ := ⟨_, rfl⟩
          replace H : (spec_Nodes.l0 k2 y293 (IntKind.u64.wrap (x290000_1 + (ji24))) a0_1) = some r := by first | (rw [hji24] at H; exact H)
          have hji24_ : (IntKind.u64.wrap (1 * 2 ^ min x4_2.toNat 64)) = ji24 := hji24
          have hji24z : x4_2 ≤ 64 → (IntKind.u64.wrap (1 * 2 ^ x4_2.toNat)) = ji24 := shl_small hji24
          have hji24u : (IntKind.u64.wrap (2 ^ min x4_2.toNat 64)) = ji24 := by have h_ := hji24_; rw [Int.one_mul] at h_; exact h_
          have hji24v : x4_2 ≤ 64 → (IntKind.u64.wrap (2 ^ x4_2.toNat)) = ji24 := fun hle_ => by have h_ := hji24z hle_; rw [Int.one_mul] at h_; exact h_
          have H' := Aside0.mk H
          clear H
          have hcz25_0 : wr.cell? ⟨gb289, 0, none⟩ = some (.int .u64 x290000_1) := (blk_cell BK289.out 0).trans rfl
          have hcz25_1 : wr.cell? ⟨gb289, 1, none⟩ = some (.int .u64 a0_1) := (blk_cell BK289.out 1).trans rfl
          have hfz25_0 := blk_frozen BK289.out 0
          have hfz25_1 := blk_frozen BK289.out 1
          go_wp2_with (first | ((with_reducible refine gate_builtin (b := .append) (xs := #[.tmp 33, .tmp 40]) rfl ?_); at_builtin; refine Kd.R_append k49 (w0 := w) w.heap.size rfl (.tmp 33) (.tmp 40) 59 49 (.agg #[(.int .u64 0), (.int .u64 0)]) 16 rfl Tryd.underlying59 info49 rfl (by decide) (by omega) u3 x3_1 (⟨x4_2, ji7⟩ : S49) [.int .u64 x4_2, .int .u64 ji7] (fun _ => True) (fun _ => False) rfl rfl ?aP (fun _ hk => hk.elim) ?aF ?aO ?aB ?aS ?aL ?_; (case aP => exact k49_mkM _ _ _ (⟨x4_2, ji7⟩ : S49)); (case aB => exact (by repeat (first | (with_reducible first | exact HB.out)))); (case aF => exact (fun _ _ => trivial)); (case aO => exact (by exact HO_3.out)); (case aS => exact (below_size (by repeat (first | (with_reducible first | exact HB.out))))); (case aL => have := LMc22.out; omega); intro v294 w26 ho hb hg hat; rw [← Ny293.out] at ho; have n0_ := Aside0.mk (blk_grown (g := gb289) (o := .cells #[.int .u64 x290000_1, .int .u64 a0_1] 53 (0, 0)) (by exact BK289.out) hg (Kd.R_ne HO_3.out BK289.out (by decide))); have n1_ := Aside0.mk (hb); have n2_ := Aside0.mk (ho); clear BK289; clear HB; clear HO_3; have BK289 := n0_; have HB := n1_; have HO295 := n2_; clear n0_ n1_ n2_; clear ho hb hg hat; have hcz27_0 : w26.cell? ⟨gb289, 0, none⟩ = some (.int .u64 x290000_1) := (blk_cell BK289.out 0).trans rfl; have hcz27_1 : w26.cell? ⟨gb289, 1, none⟩ = some (.int .u64 a0_1) := (blk_cell BK289.out 1).trans rfl; have hfz27_0 := blk_frozen BK289.out 0; have hfz27_1 := blk_frozen BK289.out 1))
          go_roundg k2
          case measure => have := HK1.out; have := HK2.out; omega
          case rel => exact ⟨(y293), (IntKind.u64.wrap (x290000_1 + (ji24))), H', ⟨by have := HK1.out; have := HK2.out; omega⟩, ⟨by exact Kd.R_mono (Kd.R_far (p := ⟨gb289, 0, none⟩) (Kd.R_types HO295.out BK289.out (by decide)) (fun _ hk => hk.2) (.int .u64 (IntKind.u64.wrap (x290000_1 + (ji24))))) (fun _ hk => trivial)⟩, ⟨by refine blk_put (cs := #[.int .u64 x290000_1, .int .u64 a0_1]) ?_ 0 _ rfl; exact BK289.out⟩, ⟨by repeat (first | (with_reducible first | exact HB.out | refine below_set ?_ GE289.out))⟩⟩
         ·rw [if_neg c22] at H
          exact absurd H (by simp)
       ·rw [if_neg c6] at H
        exact absurd H (by simp)
      ·rw [if_neg c5] at H
       have c5b0 : decide (x4_2 < 63) = false := decide_eq_false c5
       clear c5
       by_cases c28 : 0 ≤ x4_2
       ·rw [if_pos c28] at H
        have c28b0 := eq_true c28
        have c28b1 : decide (0 ≤ x4_2) = true := decide_eq_true c28
        clear c28
        obtain ⟨ji29, hji29⟩ : ∃ j_ : Int, (shr .u64 x290000_1 x4_2) = j_ := ⟨_, rfl⟩
        replace H : (if x3_1.length < 8796093022208 then (spec_Nodes.l0 k2 (x3_1 ++ [(⟨x4_2, ji29⟩ : S49)]) (IntKind.u64.wrap (x290000_1 + (shl .u64 1 x4_2))) a0_1) else (none)) = some r := by first | (rw [hji29] at H; exact H)
        have hji29_ : (x290000_1 / 2 ^ min x4_2.toNat 64) = ji29 := hji29
        have hji29z : x4_2 ≤ 64 → (x290000_1 / 2 ^ x4_2.toNat) = ji29 := shr_small hji29
        by_cases c30 : x3_1.length < 8796093022208
        ·rw [if_pos c30] at H
         have LMc30 := Aside0.mk c30
         clear c30
         obtain ⟨y296, hy296⟩ : ∃ y_ : List (S49), y_ = (x3_1 ++ [(⟨x4_2, ji29⟩ : S49)]) := ⟨_, rfl⟩
         replace H : (spec_Nodes.l0 k2 y296 (IntKind.u64.wrap (x290000_1 + (shl .u64 1 x4_2))) a0_1) = some r := by first | (rw [hy296]; with_reducible exact H)
         have Ny296 := Aside0.mk hy296
         clear hy296
         have c31b0 := eq_true (of_decide_eq_true (by first | (with_reducible assumption)) : 0 ≤ x4_2)
         obtain ⟨ji32, hji32⟩ : ∃ j_ : Int, (shl .u64 1 x4_2) = j_ := ⟨_, rfl⟩
         replace H : (spec_Nodes.l0 k2 y296 (IntKind.u64.wrap (x290000_1 + (ji32))) a0_1) = some r := by first | (rw [hji32] at H; exact H)
         have hji32_ : (IntKind.u64.wrap (1 * 2 ^ min x4_2.toNat 64)) = ji32 := hji32
         have hji32z : x4_2 ≤ 64 → (IntKind.u64.wrap (1 * 2 ^ x4_2.toNat)) = ji32 := shl_small hji32
         have hji32u : (IntKind.u64.wrap (2 ^ min x4_2.toNat 64)) = ji32 := by have h_ := hji32_; rw [Int.one_mul] at h_; exact h_
         have hji32v : x4_2 ≤ 64 → (IntKind.u64.wrap (2 ^ x4_2.toNat)) = ji32 := fun hle_ => by have h_ := hji32z hle_; rw [Int.one_mul] at h_; exact h_
         have H' := Aside0.mk H
         clear H
         have hcz33_0 : wr.cell? ⟨gb289, 0, none⟩ = some (.int .u64 x290000_1) := (blk_cell BK289.out 0).trans rfl
         have hcz33_1 : wr.cell? ⟨gb289, 1, none⟩ = some (.int .u64 a0_1) := (blk_cell BK289.out 1).trans rfl
         have hfz33_0 := blk_frozen BK289.out 0
         have hfz33_1 := blk_frozen BK289.out 1
         go_wp2_with (first | ((with_reducible refine gate_builtin (b := .append) (xs := #[.tmp 33, .tmp 40]) rfl ?_); at_builtin; refine Kd.R_append k49 (w0 := w) w.heap.size rfl (.tmp 33) (.tmp 40) 59 49 (.agg #[(.int .u64 0), (.int .u64 0)]) 16 rfl Tryd.underlying59 info49 rfl (by decide) (by omega) u3 x3_1 (⟨x4_2, ji29⟩ : S49) [.int .u64 x4_2, .int .u64 ji29] (fun _ => True) (fun _ => False) rfl rfl ?aP (fun _ hk => hk.elim) ?aF ?aO ?aB ?aS ?aL ?_; (case aP => exact k49_mkM _ _ _ (⟨x4_2, ji29⟩ : S49)); (case aB => exact (by repeat (first | (with_reducible first | exact HB.out)))); (case aF => exact (fun _ _ => trivial)); (case aO => exact (by exact HO_3.out)); (case aS => exact (below_size (by repeat (first | (with_reducible first | exact HB.out))))); (case aL => have := LMc30.out; omega); intro v297 w34 ho hb hg hat; rw [← Ny296.out] at ho; have n0_ := Aside0.mk (blk_grown (g := gb289) (o := .cells #[.int .u64 x290000_1, .int .u64 a0_1] 53 (0, 0)) (by exact BK289.out) hg (Kd.R_ne HO_3.out BK289.out (by decide))); have n1_ := Aside0.mk (hb); have n2_ := Aside0.mk (ho); clear BK289; clear HB; clear HO_3; have BK289 := n0_; have HB := n1_; have HO298 := n2_; clear n0_ n1_ n2_; clear ho hb hg hat; have hcz35_0 : w34.cell? ⟨gb289, 0, none⟩ = some (.int .u64 x290000_1) := (blk_cell BK289.out 0).trans rfl; have hcz35_1 : w34.cell? ⟨gb289, 1, none⟩ = some (.int .u64 a0_1) := (blk_cell BK289.out 1).trans rfl; have hfz35_0 := blk_frozen BK289.out 0; have hfz35_1 := blk_frozen BK289.out 1))
         go_roundg k2
         case measure => have := HK1.out; have := HK2.out; omega
         case rel => exact ⟨(y296), (IntKind.u64.wrap (x290000_1 + (ji32))), H', ⟨by have := HK1.out; have := HK2.out; omega⟩, ⟨by exact Kd.R_mono (Kd.R_far (p := ⟨gb289, 0, none⟩) (Kd.R_types HO298.out BK289.out (by decide)) (fun _ hk => hk.2) (.int .u64 (IntKind.u64.wrap (x290000_1 + (ji32))))) (fun _ hk => trivial)⟩, ⟨by refine blk_put (cs := #[.int .u64 x290000_1, .int .u64 a0_1]) ?_ 0 _ rfl; exact BK289.out⟩, ⟨by repeat (first | (with_reducible first | exact HB.out | refine below_set ?_ GE289.out))⟩⟩
        ·rw [if_neg c30] at H
         exact absurd H (by simp)
       ·rw [if_neg c28] at H
        exact absurd H (by simp)
   ·rw [if_neg c3] at H
    have c3b0 : decide (x290000_1 < a0_1) = false := decide_eq_false c3
    clear c3
    obtain rfl := Option.some.inj H
    have hcz36_0 : wr.cell? ⟨gb289, 0, none⟩ = some (.int .u64 x290000_1) := (blk_cell BK289.out 0).trans rfl
    have hcz36_1 : wr.cell? ⟨gb289, 1, none⟩ = some (.int .u64 a0_1) := (blk_cell BK289.out 1).trans rfl
    have hfz36_0 := blk_frozen BK289.out 0
    have hfz36_1 := blk_frozen BK289.out 1
    go_wp2
    go_ret
    exact ⟨_, by first | rfl, by exact HO_3.out, by repeat (first | (with_reducible first | exact HB.out))⟩
end Go.Proofs.YtielnphmcaecdaaDoor.PAll
namespace Go.Proofs.YtielnphmcaecdaaDoor.PAll
open Go.RowKit Go.Proofs.YtielnphmcaecdaaDoor.Num Go.Proofs.YtielnphmcaecdaaDoor.Mth Go.Proofs.YtielnphmcaecdaaDoorW.PrintWords Go.Proofs.YtielnphmcaecdaaDoorW.PrintLast
theorem ndiv (n m : Nat) : (n : Int) / (m : Int) = ((n / m : Nat) : Int) := (Int.natCast_ediv n m).symm
theorem and_le2 (a b : Nat) : a &&& b ≤ b := Nat.and_le_right
theorem msk55 : msk 85 8 = 6148914691236517205 := rfl
theorem msk33 : msk 51 8 = 3689348814741910323 := rfl
theorem msk0f : msk 15 8 = 1085102592571150095 := rfl
theorem st1_le (x : Nat) : st1 8 x ≤ 12297829382473034410 := by
 have h1 := and_le2 (x / 2) (msk 85 8); have h2 := and_le2 x (msk 85 8)
 rw [msk55] at h1 h2
 unfold st1; rw [msk55]; omega
theorem st2_le (x : Nat) : st2 8 x ≤ 7378697629483820646 := by
 have h1 := and_le2 (x / 4) (msk 51 8); have h2 := and_le2 x (msk 51 8)
 rw [msk33] at h1 h2
 unfold st2; rw [msk33]; omega
theorem bits_OnesCount64.eq (x : Nat) (hx : x < 18446744073709551616) : bits_OnesCount64.f (x : Int) = some ((ones x : Nat) : Int) := by
 have h1 := st1_le x
 have h2 := st2_le (st1 8 x)
 have hs := swar x hx
 dsimp only at hs
 have h3 : st3 8 (st2 8 (st1 8 x)) = cnt 8 x := st3_all 8 x
 have d2 : (x : Int) / 2 = ((x / 2 : Nat) : Int) := ndiv x 2
 have a1 : Go.bits .and .u64 ((x / 2 : Nat) : Int) 6148914691236517205 = ((x / 2 &&& 6148914691236517205 : Nat) : Int) := and64 (x / 2) 6148914691236517205 (by omega) (by omega)
 have a2 : Go.bits .and .u64 (x : Int) 6148914691236517205 = ((x &&& 6148914691236517205 : Nat) : Int) := and64 x 6148914691236517205 (by omega) (by omega)
 have e1 : IntKind.u64.wrap (Go.bits .and .u64 ((x : Int) / 2) 6148914691236517205 + Go.bits .and .u64 (x : Int) 6148914691236517205) = ((st1 8 x : Nat) : Int) := by
  rw [d2, a1, a2, ← Int.natCast_add, ← msk55]
  exact u64in (n := st1 8 x) (by omega)
 generalize st1 8 x = y at *
 have d3 : (y : Int) / 4 = ((y / 4 : Nat) : Int) := ndiv y 4
 have b1 : Go.bits .and .u64 ((y / 4 : Nat) : Int) 3689348814741910323 = ((y / 4 &&& 3689348814741910323 : Nat) : Int) := and64 (y / 4) 3689348814741910323 (by omega) (by omega)
 have b2 : Go.bits .and .u64 (y : Int) 3689348814741910323 = ((y &&& 3689348814741910323 : Nat) : Int) := and64 y 3689348814741910323 (by omega) (by omega)
 have e2 : IntKind.u64.wrap (Go.bits .and .u64 ((y : Int) / 4) 3689348814741910323 + Go.bits .and .u64 (y : Int) 3689348814741910323) = ((st2 8 y : Nat) : Int) := by
  rw [d3, b1, b2, ← Int.natCast_add, ← msk33]
  exact u64in (n := st2 8 y) (by omega)
 generalize st2 8 y = z at *
 have d4 : (z : Int) / 16 = ((z / 16 : Nat) : Int) := ndiv z 16
 have c0 : IntKind.u64.wrap ((z : Int) / 16 + (z : Int)) = ((z / 16 + z : Nat) : Int) := by
  rw [d4, ← Int.natCast_add]
  exact u64in (by omega)
 have e3 : Go.bits .and .u64 (IntKind.u64.wrap ((z : Int) / 16 + (z : Int))) 1085102592571150095 = ((cnt 8 x : Nat) : Int) := by
  rw [c0, ← h3, st3, msk0f]
  exact and64 (z / 16 + z) 1085102592571150095 (by omega) (by omega)
 generalize cnt 8 x = c at *
 have d5 : (c : Int) / 256 = ((c / 256 : Nat) : Int) := ndiv c 256
 have e4 : IntKind.u64.wrap ((c : Int) + (c : Int) / 256) = ((c + c / 256 : Nat) : Int) := by
  rw [d5, ← Int.natCast_add]
  exact u64in (by omega)
 have hp := hs.2.1
 generalize c + c / 256 = p at *
 have d6 : (p : Int) / 65536 = ((p / 65536 : Nat) : Int) := ndiv p 65536
 have e5 : IntKind.u64.wrap ((p : Int) + (p : Int) / 65536) = ((p + p / 65536 : Nat) : Int) := by
  rw [d6, ← Int.natCast_add]
  exact u64in (by omega)
 generalize p + p / 65536 = q at *
 have d7 : (q : Int) / 4294967296 = ((q / 4294967296 : Nat) : Int) := ndiv q 4294967296
 have e6 : IntKind.u64.wrap ((q : Int) + (q : Int) / 4294967296) = ((q + q / 4294967296 : Nat) : Int) := by
  rw [d7, ← Int.natCast_add]
  exact u64in (by omega)
 generalize q + q / 4294967296 = r at *
 have hr : Go.bits .and .i64 (wrap64 (r : Int)) 127 = ((ones x : Nat) : Int) := by
  rw [i64_and127, w64 hs.2.1, ← hs.1]
  rfl
 unfold bits_OnesCount64.f
 rw [e1, e2, e3, e4, e5, e6, hr]
def lenTab : ByteArray := (⟨#[0, 1, 2, 2, 3, 3, 3, 3, 4, 4, 4, 4, 4, 4, 4, 4, 5, 5, 5, 5, 5, 5, 5, 5, 5, 5, 5, 5, 5, 5, 5, 5, 6, 6, 6, 6, 6, 6, 6, 6, 6, 6, 6, 6, 6, 6, 6, 6, 6, 6, 6, 6, 6, 6, 6, 6, 6, 6, 6, 6, 6, 6, 6, 6, 7, 7, 7, 7, 7, 7, 7, 7, 7, 7, 7, 7, 7, 7, 7, 7, 7, 7, 7, 7, 7, 7, 7, 7, 7, 7, 7, 7, 7, 7, 7, 7, 7, 7, 7, 7, 7, 7, 7, 7, 7, 7, 7, 7, 7, 7, 7, 7, 7, 7, 7, 7, 7, 7, 7, 7, 7, 7, 7, 7, 7, 7, 7, 7, 8, 8, 8, 8, 8, 8, 8, 8, 8, 8, 8, 8, 8, 8, 8, 8, 8, 8, 8, 8, 8, 8, 8, 8, 8, 8, 8, 8, 8, 8, 8, 8, 8, 8, 8, 8, 8, 8, 8, 8, 8, 8, 8, 8, 8, 8, 8, 8, 8, 8, 8, 8, 8, 8, 8, 8, 8, 8, 8, 8, 8, 8, 8, 8, 8, 8, 8, 8, 8, 8, 8, 8, 8, 8, 8, 8, 8, 8, 8, 8, 8, 8, 8, 8, 8, 8, 8, 8, 8, 8, 8, 8, 8, 8, 8, 8, 8, 8, 8, 8, 8, 8, 8, 8, 8, 8, 8, 8, 8, 8, 8, 8, 8, 8, 8, 8, 8, 8, 8, 8, 8, 8, 8, 8, 8, 8, 8, 8]⟩ : ByteArray)
def lenList : List Nat := [0, 1, 2, 2, 3, 3, 3, 3, 4, 4, 4, 4, 4, 4, 4, 4, 5, 5, 5, 5, 5, 5, 5, 5, 5, 5, 5, 5, 5, 5, 5, 5, 6, 6, 6, 6, 6, 6, 6, 6, 6, 6, 6, 6, 6, 6, 6, 6, 6, 6, 6, 6, 6, 6, 6, 6, 6, 6, 6, 6, 6, 6, 6, 6, 7, 7, 7, 7, 7, 7, 7, 7, 7, 7, 7, 7, 7, 7, 7, 7, 7, 7, 7, 7, 7, 7, 7, 7, 7, 7, 7, 7, 7, 7, 7, 7, 7, 7, 7, 7, 7, 7, 7, 7, 7, 7, 7, 7, 7, 7, 7, 7, 7, 7, 7, 7, 7, 7, 7, 7, 7, 7, 7, 7, 7, 7, 7, 7, 8, 8, 8, 8, 8, 8, 8, 8, 8, 8, 8, 8, 8, 8, 8, 8, 8, 8, 8, 8, 8, 8, 8, 8, 8, 8, 8, 8, 8, 8, 8, 8, 8, 8, 8, 8, 8, 8, 8, 8, 8, 8, 8, 8, 8, 8, 8, 8, 8, 8, 8, 8, 8, 8, 8, 8, 8, 8, 8, 8, 8, 8, 8, 8, 8, 8, 8, 8, 8, 8, 8, 8, 8, 8, 8, 8, 8, 8, 8, 8, 8, 8, 8, 8, 8, 8, 8, 8, 8, 8, 8, 8, 8, 8, 8, 8, 8, 8, 8, 8, 8, 8, 8, 8, 8, 8, 8, 8, 8, 8, 8, 8, 8, 8, 8, 8, 8, 8, 8, 8, 8, 8, 8, 8, 8, 8, 8, 8]
theorem lenList_all : lenList = (List.range 256).map blen := by decide +kernel
theorem lenTab_same : lenTab.data.toList.map UInt8.toNat = lenList := by kernel_rfl
theorem lenTab_all : lenTab.data.toList.map UInt8.toNat = (List.range 256).map blen := lenTab_same.trans lenList_all
theorem lenTab_list (i : Nat) (h : i < 256) : (lenTab.data.toList.getD i 0).toNat = blen i := by
 have h1 : (lenTab.data.toList.map UInt8.toNat)[i]? = ((List.range 256).map blen)[i]? := by rw [lenTab_all]
 rw [List.getElem?_map, List.getElem?_map, List.getElem?_range h] at h1
 rw [List.getD_eq_getElem?_getD]
 cases h2 : lenTab.data.toList[i]? with
 | none => rw [h2] at h1; simp at h1
 | some b => rw [h2] at h1; simpa using h1
theorem lenTab_size : lenTab.size = 256 := by kernel_rfl
theorem bt_list (s : ByteArray) (i : Nat) (h : i < s.size) : bt s (i : Int) = ((s.data.toList.getD i 0).toNat : Int) := by
 have h' : i < s.data.size := h
 unfold bt
 rw [dif_pos (by simpa using h)]
 simp only [Int.toNat_natCast]
 rw [List.getD_eq_getElem?_getD, Array.getElem?_toList, Array.getElem?_eq_getElem h']
 rfl
theorem lenTab_at (i : Nat) (h : i < 256) : bt lenTab (i : Int) = ((blen i : Nat) : Int) := by
 rw [bt_list _ _ (by rw [lenTab_size]; exact h), lenTab_list i h]
theorem blen_shift (x s : Nat) (h : 2 ^ s ≤ x) : blen x = blen (x / 2 ^ s) + s := by
 induction s generalizing x with
 | zero => simp
 | succ s ih =>
  have hp := Nat.two_pow_pos s
  rw [Nat.pow_succ] at h
  rw [blen_pos (by omega), ih (x / 2) (by omega), Nat.div_div_eq_div_mul, Nat.pow_succ, Nat.mul_comm 2]; omega
theorem w64_add (a b : Nat) (h : a + b < 9223372036854775808) : wrap64 ((a : Int) + (b : Int)) = ((a + b : Nat) : Int) := by
 rw [← Int.natCast_add]; exact w64 h
theorem byte_in (y : Nat) (h : y < 256) : (y : Int) % 256 = (y : Int) := by omega
theorem blen_byte {y : Nat} (h : y < 256) : blen y ≤ 8 := blen_le.2 h
theorem len_end (b s : Nat) (hb : b ≤ 8) (hs : s ≤ 256) : wrap64 ((s : Int) + wrap64 (b : Int)) = ((b + s : Nat) : Int) := by
 rw [w64 (n := b) (by omega), w64_add s b (by omega), Nat.add_comm]
theorem shift_end (s d : Nat) (hs : s ≤ 256) (hd : d ≤ 256) : wrap64 ((s : Int) + (d : Int)) = ((s + d : Nat) : Int) := w64_add s d (by omega)
theorem bits_Len64.low (k : Nat) (x s : Nat) (hx : x < 4294967296) (hs : s ≤ 64) : bits_Len64.j0 (k + 1) (x : Int) (s : Int) = some ((blen x + s : Nat) : Int) := by
 show (if (x : Int) ≥ 65536 then (if ((x : Int) / 65536) ≥ 256 then (if 0 ≤ ((((x : Int) / 65536) / 256) % 256) then (if ((((x : Int) / 65536) / 256) % 256) < 256 then (some (wrap64 ((wrap64 ((wrap64 ((s : Int) + 16)) + 8)) + (wrap64 (bt lenTab ((((x : Int) / 65536) / 256) % 256)))))) else (none)) else (none)) else (if 0 ≤ (((x : Int) / 65536) % 256) then (if (((x : Int) / 65536) % 256) < 256 then (some (wrap64 ((wrap64 ((s : Int) + 16)) + (wrap64 (bt lenTab (((x : Int) / 65536) % 256)))))) else (none)) else (none))) else (if (x : Int) ≥ 256 then (if 0 ≤ (((x : Int) / 256) % 256) then (if (((x : Int) / 256) % 256) < 256 then (some (wrap64 ((wrap64 ((s : Int) + 8)) + (wrap64 (bt lenTab (((x : Int) / 256) % 256)))))) else (none)) else (none)) else (if 0 ≤ (((x : Int)) % 256) then (if (((x : Int)) % 256) < 256 then (some (wrap64 ((s : Int) + (wrap64 (bt lenTab (((x : Int)) % 256)))))) else (none)) else (none)))) = _
 have d1 : (x : Int) / 65536 = ((x / 65536 : Nat) : Int) := ndiv x 65536
 have d2 : (x : Int) / 256 = ((x / 256 : Nat) : Int) := ndiv x 256
 have d3 : ((x / 65536 : Nat) : Int) / 256 = ((x / 65536 / 256 : Nat) : Int) := ndiv (x / 65536) 256
 have s16 : wrap64 ((s : Int) + 16) = ((s + 16 : Nat) : Int) := shift_end s 16 (by omega) (by omega)
 have s8 : wrap64 ((s : Int) + 8) = ((s + 8 : Nat) : Int) := shift_end s 8 (by omega) (by omega)
 have s24 : wrap64 (((s + 16 : Nat) : Int) + 8) = ((s + 16 + 8 : Nat) : Int) := shift_end (s + 16) 8 (by omega) (by omega)
 rw [d1, d2, d3, s16, s8, s24]
 by_cases h1 : 65536 ≤ x
 ·rw [if_pos (by omega)]
  by_cases h2 : 256 ≤ x / 65536
  ·have h3 : x / 65536 / 256 < 256 := by omega
   have e := blen_shift x 24 (by omega)
   rw [show x / 2 ^ 24 = x / 65536 / 256 by omega] at e
   rw [if_pos (by omega), byte_in _ h3, lenTab_at _ h3, if_pos (by omega), if_pos (by omega), len_end _ _ (blen_byte h3) (by omega), e]
   congr 2; omega
  ·have h3 : x / 65536 < 256 := by omega
   have e := blen_shift x 16 (by omega)
   rw [show x / 2 ^ 16 = x / 65536 by omega] at e
   rw [if_neg (by omega), byte_in _ h3, lenTab_at _ h3, if_pos (by omega), if_pos (by omega), len_end _ _ (blen_byte h3) (by omega), e]
   congr 2; omega
 ·rw [if_neg (by omega)]
  by_cases h2 : 256 ≤ x
  ·have h3 : x / 256 < 256 := by omega
   have e := blen_shift x 8 (by omega)
   rw [show x / 2 ^ 8 = x / 256 by omega] at e
   rw [if_pos (by omega), byte_in _ h3, lenTab_at _ h3, if_pos (by omega), if_pos (by omega), len_end _ _ (blen_byte h3) (by omega), e]
   congr 2; omega
  ·have h3 : x < 256 := by omega
   rw [if_neg (by omega), byte_in _ h3, lenTab_at _ h3, if_pos (by omega), if_pos (by omega), len_end _ _ (blen_byte h3) (by omega)]
theorem bits_Len64.eq (k : Nat) (x : Nat) (hx : x < 18446744073709551616) : bits_Len64.f (k + 1) (x : Int) = some ((blen x : Nat) : Int) := by
 unfold bits_Len64.f
 have d1 : (x : Int) / 4294967296 = ((x / 4294967296 : Nat) : Int) := ndiv x 4294967296
 by_cases h : 4294967296 ≤ x
 ·rw [if_pos (by omega), d1]
  have e := blen_shift x 32 (by omega)
  rw [show x / 2 ^ 32 = x / 4294967296 by omega] at e
  rw [e]
  exact bits_Len64.low k (x / 4294967296) 32 (by omega) (by omega)
 ·rw [if_neg (by omega)]
  exact bits_Len64.low k x 0 (by omega) (by omega)
end Go.Proofs.YtielnphmcaecdaaDoor.PAll
namespace Go.Proofs.YtielnphmcaecdaaDoor.Mth
def Nds (l b e : Nat) : List (Nat × Nat) :=
 if b < e then (if b % 2 = 1 then [(l, b)] else []) ++ Nds (l + 1) ((b + 1) / 2) (e / 2) ++ (if e % 2 = 1 then [(l, e - 1)] else []) else []
termination_by e
decreasing_by omega
theorem Nds_empty {l b e : Nat} (h : e ≤ b) : Nds l b e = [] := by rw [Nds, if_neg (by omega)]
theorem Nds_some {l b e : Nat} (h : b < e) : Nds l b e = (if b % 2 = 1 then [(l, b)] else []) ++ Nds (l + 1) ((b + 1) / 2) (e / 2) ++ (if e % 2 = 1 then [(l, e - 1)] else []) := by rw [Nds, if_pos h]
def lev (b e : Nat) : Nat := if b % 2 = 0 ∧ b + 2 ≤ e then lev (b / 2) (e / 2) + 1 else 0
termination_by e
decreasing_by omega
theorem lev_up {b e : Nat} (h : b % 2 = 0) (h2 : b + 2 ≤ e) : lev b e = lev (b / 2) (e / 2) + 1 := by rw [lev, if_pos ⟨h, h2⟩]
theorem lev_no {b e : Nat} (h : b % 2 = 1 ∨ e < b + 2) : lev b e = 0 := by rw [lev, if_neg (by omega)]
theorem pow_up (n : Nat) : 2 ^ (n + 1) = 2 * 2 ^ n := by rw [Nat.pow_succ, Nat.mul_comm]
theorem mod_double (b n : Nat) (h : b % 2 = 0) : b % (2 * n) = 2 * (b / 2 % n) := by
 have hb : b = 2 * (b / 2) := by omega
 rw (occs := .pos [1]) [hb]; rw [Nat.mul_mod_mul_left]
theorem lev_spec (b e : Nat) (h : b < e) : b % 2 ^ lev b e = 0 ∧ b + 2 ^ lev b e ≤ e ∧ (b % 2 ^ (lev b e + 1) = 0 → e < b + 2 ^ (lev b e + 1)) := by
 induction e using Nat.strongRecOn generalizing b with
 | _ e ih =>
 by_cases hc : b % 2 = 0 ∧ b + 2 ≤ e
 ·obtain ⟨h1, h2, h3⟩ := ih (e / 2) (by omega) (b / 2) (by omega)
  rw [lev_up hc.1 hc.2, pow_up, pow_up (lev (b / 2) (e / 2) + 1), mod_double _ _ hc.1, mod_double _ _ hc.1]
  refine ⟨by omega, by omega, fun h4 => ?_⟩
  have := h3 (by omega); omega
 ·rw [lev_no (by omega)]
  refine ⟨by simp [Nat.mod_one], by simp; omega, fun h4 => ?_⟩
  simp at h4 ⊢; omega
theorem Nds_step (l b e : Nat) (h : b < e) : Nds l b e = (l + lev b e, b / 2 ^ lev b e) :: Nds l (b + 2 ^ lev b e) e := by
 induction e using Nat.strongRecOn generalizing l b with
 | _ e ih =>
 by_cases hb : b % 2 = 1
 ·rw [Nds_some h, if_pos hb, lev_no (.inl hb)]
  simp only [Nat.add_zero, Nat.pow_zero, Nat.div_one, List.cons_append, List.nil_append]
  congr 1
  by_cases h1 : b + 1 < e
  ·rw [Nds_some h1, if_neg (show ¬ (b + 1) % 2 = 1 by omega), show (b + 1 + 1) / 2 = (b + 1) / 2 by omega]; simp
  ·rw [Nds_empty (by omega : e ≤ b + 1), Nds_empty (by omega : e / 2 ≤ (b + 1) / 2), if_neg (by omega)]; rfl
 ·by_cases h2 : b + 2 ≤ e
  ·rw [Nds_some h, if_neg hb, lev_up (by omega) h2]
   have hs := (lev_spec (b / 2) (e / 2) (by omega)).2.1
   rw [show (b + 1) / 2 = b / 2 by omega, ih (e / 2) (by omega) (l + 1) (b / 2) (by omega)]
   simp only [List.nil_append, List.cons_append]
   rw [show l + 1 + lev (b / 2) (e / 2) = l + (lev (b / 2) (e / 2) + 1) by omega, show b / 2 / 2 ^ lev (b / 2) (e / 2) = b / 2 ^ (lev (b / 2) (e / 2) + 1) by rw [pow_up, Nat.div_div_eq_div_mul]]
   rw [pow_up]
   generalize 2 ^ lev (b / 2) (e / 2) = g at *
   congr 1
   by_cases h3 : b + 2 * g < e
   ·rw [Nds_some h3, if_neg (show ¬ (b + 2 * g) % 2 = 1 by omega), show (b + 2 * g + 1) / 2 = b / 2 + g by omega]; simp
   ·rw [Nds_empty (by omega : e / 2 ≤ b / 2 + g), Nds_empty (by omega : e ≤ b + 2 * g), if_neg (by omega)]; rfl
  ·rw [Nds_some h, if_neg hb, Nds_empty (by omega : e / 2 ≤ (b + 1) / 2), if_pos (by omega), lev_no (by omega)]
   simp only [Nat.add_zero, Nat.pow_zero, Nat.div_one, List.nil_append]
   rw [Nds_empty (by omega : e ≤ b + 1), show e - 1 = b by omega]
theorem Nds_len (l b e m : Nat) (h : e < 2 ^ m) : (Nds l b e).length ≤ 2 * m := by
 induction m generalizing l b e with
 | zero => rw [Nds_empty (by simp at h; omega)]; simp
 | succ m ih =>
  by_cases hb : b < e
  ·have := ih (l + 1) ((b + 1) / 2) (e / 2) (by rw [Nat.pow_succ] at h; omega)
   rw [Nds_some hb, List.length_append, List.length_append]
   have h1 : (if b % 2 = 1 then [(l, b)] else []).length ≤ 1 := by split <;> simp
   have h2 : (if e % 2 = 1 then [(l, e - 1)] else []).length ≤ 1 := by split <;> simp
   omega
  ·rw [Nds_empty (by omega)]; simp
theorem lev_lt {b e : Nat} (h : b < e) (he : e < 18446744073709551616) : lev b e < 64 := by
 have h1 := (lev_spec b e h).2.1
 rcases Nat.lt_or_ge (lev b e) 64 with h2 | h2
 ·exact h2
 ·have : 2 ^ 64 ≤ 2 ^ lev b e := Nat.pow_le_pow_right (by decide) h2
  omega
def Lft : Nat → Nat → Nat → List (Nat × Nat)
 | _, 0, _ => []
 | l, n + 1, b => (if b % 2 = 1 then [(l, b)] else []) ++ Lft (l + 1) n ((b + 1) / 2)
def Rgt : Nat → Nat → Nat → List (Nat × Nat)
 | _, 0, _ => []
 | l, n + 1, e => Rgt (l + 1) n (e / 2) ++ (if e % 2 = 1 then [(l, e - 1)] else [])
theorem Nds_parts (n l b e : Nat) (hb : 0 < b) (h : (b - 1) / 2 ^ n + 1 = e / 2 ^ n) : Nds l b e = Lft l n b ++ Rgt l n e := by
 induction n generalizing l b e with
 | zero => simp at h; rw [Nds_empty (by omega)]; rfl
 | succ n ih =>
  have hp := Nat.two_pow_pos n
  rw [Nat.pow_succ, Nat.mul_comm, ← Nat.div_div_eq_div_mul, ← Nat.div_div_eq_div_mul] at h
  have e1 : (b + 1) / 2 - 1 = (b - 1) / 2 := by omega
  have i1 := ih (l + 1) ((b + 1) / 2) (e / 2) (by omega) (by rw [e1]; exact h)
  have hlt : (b - 1) / 2 < e / 2 := by
   rcases Nat.lt_or_ge ((b - 1) / 2) (e / 2) with h1 | h1
   ·exact h1
   ·have := Nat.div_le_div_right (c := 2 ^ n) h1; omega
  by_cases hbe : b < e
  ·rw [Nds_some hbe, i1, Lft, Rgt]; simp [List.append_assoc]
  ·have : b = e := by omega
   subst this
   have hev : b % 2 = 0 := by omega
   rw [Nds_empty (Nat.le_refl _), Lft, Rgt, if_neg (by omega), if_neg (by omega), List.nil_append, List.append_nil, ← i1, Nds_empty (by omega)]
theorem Nds_zero (n l e : Nat) (h : e < 2 ^ n) : Nds l 0 e = Rgt l n e := by
 induction n generalizing l e with
 | zero => simp at h; subst h; rw [Nds_empty (Nat.le_refl _)]; rfl
 | succ n ih =>
  have i1 := ih (l + 1) (e / 2) (by rw [Nat.pow_succ] at h; omega)
  by_cases he : 0 < e
  ·rw [Nds_some he, Rgt, ← i1]; simp
  ·have : e = 0 := by omega
   subst this
   rw [Nds_empty (Nat.le_refl _), Rgt, ← i1, Nds_empty (Nat.le_refl _)]; rfl
def RgtT : Nat → Nat → List (Nat × Nat)
 | 0, _ => []
 | n + 1, e => (if e / 2 ^ n % 2 = 1 then [(n, e / 2 ^ n - 1)] else []) ++ RgtT n e
theorem Rgt_top (l n e : Nat) : Rgt l (n + 1) e = (if e / 2 ^ n % 2 = 1 then [(l + n, e / 2 ^ n - 1)] else []) ++ Rgt l n e := by
 induction n generalizing l e with
 | zero => simp [Rgt]
 | succ n ih =>
  rw [Rgt, ih (l + 1) (e / 2), Nat.div_div_eq_div_mul, ← pow_up, show Rgt l (n + 1) e = Rgt (l + 1) n (e / 2) ++ (if e % 2 = 1 then [(l, e - 1)] else []) from rfl, List.append_assoc, show l + 1 + n = l + (n + 1) by omega]
theorem Rgt_eq (n e : Nat) : Rgt 0 n e = RgtT n e := by
 induction n with
 | zero => rfl
 | succ n ih => rw [Rgt_top, ih, RgtT, Nat.zero_add]
def negm (n b : Nat) : Nat := (2 ^ n - b % 2 ^ n) % 2 ^ n
theorem negm_zero (b : Nat) : negm 0 b = 0 := by simp [negm, Nat.mod_one]
theorem negm_even (n b : Nat) (h : b % 2 = 0) : negm (n + 1) b = 2 * negm n (b / 2) := by
 unfold negm
 have hp := Nat.two_pow_pos n
 rw [pow_up, mod_double b (2 ^ n) h, ← Nat.mul_sub, mod_double _ _ (by omega), Nat.mul_div_cancel_left _ (by decide)]
theorem negm_odd (n b : Nat) (h : b % 2 = 1) : negm (n + 1) b = 2 * negm n ((b + 1) / 2) + 1 := by
 have h1 := negm_even n (b + 1) (by omega)
 have hp := Nat.two_pow_pos n
 unfold negm at h1 ⊢
 rw [pow_up] at h1 ⊢
 have h2 : (b + 1) % (2 * 2 ^ n) = if b % (2 * 2 ^ n) + 1 = 2 * 2 ^ n then 0 else b % (2 * 2 ^ n) + 1 := by
  have h3 : b % (2 * 2 ^ n) < 2 * 2 ^ n := Nat.mod_lt _ (by omega)
  rw [Nat.add_mod]
  split
  ·rename_i h4
   by_cases h5 : 2 * 2 ^ n = 1
   ·omega
   ·rw [Nat.mod_eq_of_lt (by omega : 1 < 2 * 2 ^ n), h4, Nat.mod_self]
  ·rw [Nat.mod_eq_of_lt (by omega : 1 < 2 * 2 ^ n), Nat.mod_eq_of_lt (by omega)]
 have h4 : b % (2 * 2 ^ n) < 2 * 2 ^ n := Nat.mod_lt _ (by omega)
 have h5 : b % (2 * 2 ^ n) % 2 = 1 := by rw [Nat.mod_mul_right_mod]; exact h
 rw [h2] at h1
 rw [Nat.mod_eq_of_lt (by omega : 2 * 2 ^ n - b % (2 * 2 ^ n) < 2 * 2 ^ n)]
 split at h1
 ·rename_i h6
  rw [Nat.sub_zero, Nat.mod_self] at h1; omega
 ·rw [Nat.mod_eq_of_lt (by omega)] at h1; omega
theorem ones_Lft (n l b : Nat) : (Lft l n b).length = ones (negm n b) := by
 induction n generalizing l b with
 | zero => rw [negm_zero, ones_zero]; rfl
 | succ n ih =>
  rw [Lft, List.length_append, ih]
  by_cases h : b % 2 = 1
  ·rw [if_pos h, negm_odd n b h, ones_half (2 * _ + 1), show (2 * negm n ((b + 1) / 2) + 1) % 2 = 1 by omega, show (2 * negm n ((b + 1) / 2) + 1) / 2 = negm n ((b + 1) / 2) by omega]; rfl
  ·rw [if_neg h, negm_even n b (by omega), ones_half (2 * _), show (2 * negm n (b / 2)) % 2 = 0 by omega, show (2 * negm n (b / 2)) / 2 = negm n (b / 2) by omega, show (b + 1) / 2 = b / 2 by omega]; rfl
theorem ones_top (n e : Nat) : ones (e % 2 ^ (n + 1)) = e / 2 ^ n % 2 + ones (e % 2 ^ n) := by
 have h := ones_split n (e % 2 ^ (n + 1))
 have h1 : e % 2 ^ (n + 1) % 2 ^ n = e % 2 ^ n := Nat.mod_mod_of_dvd _ ⟨2, by rw [Nat.pow_succ]⟩
 have h2 : e % 2 ^ (n + 1) / 2 ^ n = e / 2 ^ n % 2 := by rw [Nat.pow_succ, Nat.mod_mul_right_div_self]
 rw [h1, h2] at h
 have h3 : ones (e / 2 ^ n % 2) = e / 2 ^ n % 2 := by
  rcases Nat.mod_two_eq_zero_or_one (e / 2 ^ n) with h4 | h4 <;> rw [h4]
  ·exact ones_zero
  ·rw [ones_half, ones_zero]
 omega
theorem ones_RgtT (n e : Nat) : (RgtT n e).length = ones (e % 2 ^ n) := by
 induction n with
 | zero => simp [RgtT, Nat.mod_one, ones_zero]
 | succ n ih =>
  rw [RgtT, List.length_append, ih, ones_top]
  by_cases h : e / 2 ^ n % 2 = 1
  ·rw [if_pos h, h]; rfl
  ·rw [if_neg h, show e / 2 ^ n % 2 = 0 by omega]; rfl
theorem Nds_shift (k b e : Nat) : Nds 0 (b * 2 ^ k) (e * 2 ^ k) = Nds k b e := by
 suffices h : ∀ k l, Nds l (b * 2 ^ k) (e * 2 ^ k) = Nds (l + k) b e by simpa using h k 0
 intro k
 induction k with
 | zero => intro l; simp
 | succ k ih =>
  intro l
  have e1 : b * 2 ^ (k + 1) = 2 * (b * 2 ^ k) := by rw [pow_up, Nat.mul_left_comm]
  have e2 : e * 2 ^ (k + 1) = 2 * (e * 2 ^ k) := by rw [pow_up, Nat.mul_left_comm]
  rw [show l + (k + 1) = l + 1 + k by omega, ← ih (l + 1), e1, e2]
  by_cases h : b * 2 ^ k < e * 2 ^ k
  ·rw [Nds_some (by omega), if_neg (by omega), if_neg (by omega), show (2 * (b * 2 ^ k) + 1) / 2 = b * 2 ^ k by omega, show 2 * (e * 2 ^ k) / 2 = e * 2 ^ k by omega]; simp
  ·rw [Nds_empty (by omega), Nds_empty (by omega)]
theorem Nds_nonempty {l b e : Nat} (h : b < e) : 0 < (Nds l b e).length := by rw [Nds_step l b e h]; simp
theorem and_neg_odd (m M : Nat) (h : M % 2 = 1) (hM : M < 2 ^ m) : M &&& (2 ^ m - M) = 1 := by
 obtain ⟨m, rfl⟩ : ∃ k, m = k + 1 := ⟨m - 1, by cases m with | zero => simp at hM; omega | succ m => rfl⟩
 rw [Nat.pow_succ] at hM ⊢
 have hd := Nat.and_div_two (a := M) (b := 2 ^ m * 2 - M)
 have hm := Nat.and_mod_two_pow (a := M) (b := 2 ^ m * 2 - M) (n := 1)
 rw [Nat.pow_one, h, show (2 ^ m * 2 - M) % 2 = 1 by omega] at hm
 rw [show (2 ^ m * 2 - M) / 2 = 2 ^ m - (M / 2 + 1) by omega] at hd
 have hz : M / 2 &&& (2 ^ m - (M / 2 + 1)) = 0 := by
  apply Nat.eq_of_testBit_eq
  intro i
  rw [Nat.testBit_and, Nat.testBit_two_pow_sub_succ (by omega), Nat.zero_testBit]
  cases (M / 2).testBit i <;> simp
 have : (1 &&& 1 : Nat) = 1 := rfl
 omega
theorem and_mul_pow (l x y : Nat) : (2 ^ l * x) &&& (2 ^ l * y) = 2 ^ l * (x &&& y) := by
 have h1 := Nat.and_div_two_pow (a := 2 ^ l * x) (b := 2 ^ l * y) (n := l)
 have h2 := Nat.and_mod_two_pow (a := 2 ^ l * x) (b := 2 ^ l * y) (n := l)
 rw [Nat.mul_div_cancel_left _ (Nat.two_pow_pos l), Nat.mul_div_cancel_left _ (Nat.two_pow_pos l)] at h1
 rw [Nat.mul_mod_right, Nat.mul_mod_right, Nat.and_self] at h2
 have h3 := Nat.div_add_mod ((2 ^ l * x) &&& (2 ^ l * y)) (2 ^ l)
 rw [h1, h2] at h3; omega
theorem xor_mul_pow (l x y : Nat) : (2 ^ l * x) ^^^ (2 ^ l * y) = 2 ^ l * (x ^^^ y) := by
 have h1 := Nat.xor_div_two_pow (a := 2 ^ l * x) (b := 2 ^ l * y) (n := l)
 have h2 := Nat.xor_mod_two_pow (a := 2 ^ l * x) (b := 2 ^ l * y) (n := l)
 rw [Nat.mul_div_cancel_left _ (Nat.two_pow_pos l), Nat.mul_div_cancel_left _ (Nat.two_pow_pos l)] at h1
 rw [Nat.mul_mod_right, Nat.mul_mod_right, Nat.xor_self] at h2
 have h3 := Nat.div_add_mod ((2 ^ l * x) ^^^ (2 ^ l * y)) (2 ^ l)
 rw [h1, h2] at h3; omega
theorem xor_one_odd {M : Nat} (h : M % 2 = 1) : M ^^^ 1 = M - 1 := by
 have h1 := Nat.xor_div_two (a := M) (b := 1)
 have h2 := Nat.xor_mod_two_pow (a := M) (b := 1) (n := 1)
 rw [Nat.pow_one, h] at h2
 have h3 : (1 ^^^ (1 % 2) : Nat) = 0 := rfl
 rw [show (1 : Nat) / 2 = 0 from rfl, Nat.xor_zero] at h1
 omega
theorem xor_top {n r : Nat} (h : r < 2 ^ n) : (2 ^ n + r) ^^^ 2 ^ n = r := by
 have h1 := Nat.xor_div_two_pow (a := 2 ^ n + r) (b := 2 ^ n) (n := n)
 have h2 := Nat.xor_mod_two_pow (a := 2 ^ n + r) (b := 2 ^ n) (n := n)
 have hp := Nat.two_pow_pos n
 rw [Nat.add_div_left _ hp, Nat.div_eq_of_lt h, Nat.div_self hp, Nat.xor_self] at h1
 rw [Nat.add_mod_left, Nat.mod_eq_of_lt h, Nat.mod_self, Nat.xor_zero] at h2
 have h3 := Nat.div_add_mod ((2 ^ n + r) ^^^ 2 ^ n) (2 ^ n)
 rw [h1, h2] at h3; omega
end Go.Proofs.YtielnphmcaecdaaDoor.Mth
