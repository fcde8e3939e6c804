-- Written by a program of this session (wip/tools)
import Derived.Test.YtielnphmcaecdaaDoorQTTTreeMem
import Derived.Test.YtielnphmcaecdaaDoorQTTExtTz
set_option maxHeartbeats 8000000
set_option maxRecDepth 100000
set_option linter.unusedVariables false
set_option linter.unusedSimpArgs false
namespace Go.Proofs.YtielnphmcaecdaaDoor.PAll
open Go.RowKit Go.Proofs.YtielnphmcaecdaaDoorW.PrintWords Go.Proofs.YtielnphmcaecdaaDoorW.PrintLast Go.Proofs.YtielnphmcaecdaaDoorW.PrintMore
attribute [local go_sem] max2_int min2_int max_two min_two max_three min_three max_four min_four   -- for this text's walks alone
mutual
def compact_RangeNodes.l0 : Nat → List (S99) → Int → Int → Int → Option ((List (S99)))
 | 0, _, _, _, _ => none
 | k + 1, x2, x7, x8, x9 => if x7 = 0 then (compact_RangeNodes.l1 k x2 x8 x9) else ((bits_TrailingZeros64.f x7).bind fun t157 => (if 0 ≤ (IntKind.u64.wrap (t157)) then ((compact_NewNodeID.f (IntKind.u64.wrap (t157)) (shr .u64 x9 (IntKind.u64.wrap (t157)))).bind fun bt158 => (if x2.length < 8796093022208 then (compact_RangeNodes.l0 k (x2 ++ [(⟨bt158.1, bt158.2⟩ : S99)]) (Go.bits .xor .u64 x7 (shl .u64 1 (IntKind.u64.wrap (t157)))) x8 (IntKind.u64.wrap (x9 + (shl .u64 1 (IntKind.u64.wrap (t157)))))) else (none))) else (none)))
def compact_RangeNodes.l1 : Nat → List (S99) → Int → Int → Option ((List (S99)))
 | 0, _, _, _ => none
 | k + 1, x2, x8, x9 => if x8 = 0 then (some x2) else ((bits_Len64.f k x8).bind fun t163 => (if 0 ≤ (IntKind.u64.wrap ((IntKind.u64.wrap (t163)) - 1)) then ((compact_NewNodeID.f (IntKind.u64.wrap ((IntKind.u64.wrap (t163)) - 1)) (shr .u64 x9 (IntKind.u64.wrap ((IntKind.u64.wrap (t163)) - 1)))).bind fun bt164 => (if x2.length < 8796093022208 then (compact_RangeNodes.l1 k (x2 ++ [(⟨bt164.1, bt164.2⟩ : S99)]) (Go.bits .xor .u64 x8 (shl .u64 1 (IntKind.u64.wrap ((IntKind.u64.wrap (t163)) - 1)))) (IntKind.u64.wrap (x9 + (shl .u64 1 (IntKind.u64.wrap ((IntKind.u64.wrap (t163)) - 1)))))) else (none))) else (none)))
end
def compact_RangeNodes.f (k : Nat) (a0 : Int) (a1 : Int) (l2 : List (S99)) : Option ((List (S99))) := (compact_Decompose.f k a0 a1).bind fun bt155 => (compact_RangeNodes.l0 k l2 bt155.1 bt155.2 a0)
theorem compact_RangeNodes.calls (k : Nat) (a0 : Int) (a1 : Int) (P2_ : Nat → Prop) (u9000_ : Value) (l2 : List (S99)) (r : List (S99)) (w0 w : World) (hG : Glob w0) (hB : Below w0.heap.size w0 w) (ho2 : Kd.R k99 99 w w0.heap.size P2_ u9000_ l2) (h : compact_RangeNodes.f k a0 a1 l2 = some r) :
 Calls Tryd.prog 84 #[.int .u64 a0, .int .u64 a1, u9000_] w fun e w' => ∃ v0_ : Value, e = .returned (v0_) ∧ Kd.R k99 99 w' w0.heap.size (fun k_ => (P2_ k_ ∨ w.heap.size ≤ k_)) v0_ r ∧ Below w0.heap.size w0 w' ∧ Kept w w' (fun k_ => P2_ k_) := by
 have HO2 := Aside0.mk (show Kd.R k99 99 w w0.heap.size (fun k_ => (P2_ k_ ∨ w.heap.size ≤ k_)) u9000_ l2 from Kd.R_mono ho2 (fun k_ hk => (.inl hk)))
 have HK := Aside0.mk (Kept.refl w (fun k_ => P2_ k_))
 have HW0 := Aside0.mk hB.size
 have HB := Aside0.mk hB
 clear hB
 have H : ((compact_Decompose.f k a0 a1).bind fun bt155 => (compact_RangeNodes.l0 k l2 bt155.1 bt155.2 a0)) = some r := h
 clear h
 replace H := Option.bind_eq_some_iff.mp H
 obtain ⟨⟨t155, t156⟩, A40, H⟩ := H
 replace H : (compact_RangeNodes.l0 k l2 t155 t156 a0) = some r := H
 have A4 := Aside0.mk A40
 clear A40
 have H' := Aside0.mk H
 clear H
 go_enter Tryd.func84, Tryd.ntmps84
 go_wp2_with (first | ((with_reducible refine gate_callee (f := 108) rfl ?_); refine goesL_ (some 17) rfl rfl Tryd.func108 (by kernel_rfl) rfl #[.int .u64 a0, .int .u64 a1] rfl (by (try simp only [List.map_toArray, List.map_cons, List.map_nil]); first | rfl) ?_; (with_reducible refine (compact_Decompose.calls k a0 a1 t155 t156 _ A4.out).mono ?_); rintro e w' ⟨rfl, ⟨nd, rfl⟩⟩; refine ⟨_, rfl, ?_⟩))
 try simp only [Act.put, List.setIfInBounds_toArray, List.set_cons_zero, List.set_cons_succ]
 go_loopg [2, 7, 9] k (fun kq v2 v7 v9 w' => ∃ (x2_1 : List (S99)) (x7_1 : Int) (x9_1 : Int), v7 = .int .u64 x7_1 ∧ v9 = .int .u64 x9_1 ∧ Aside0 (compact_RangeNodes.l0 kq x2_1 x7_1 t156 x9_1 = some r) ∧ Aside0 (kq ≤ k) ∧ Aside0 (Kd.R k99 99 w' w0.heap.size (fun k_ => (P2_ k_ ∨ w.heap.size ≤ k_)) v2 x2_1) ∧ Aside0 (Kept w w' (fun k_ => P2_ k_)) ∧ Aside0 (Below w0.heap.size w0 w'))
 case atStart => exact ⟨(l2), (t155), (a0), (by first | rfl), (by first | rfl), H', ⟨Nat.le_refl _⟩, ⟨by (with_reducible repeat (first | apply Kd.R_drewN)); exact HO2.out⟩, ⟨by repeat (first | (with_reducible first | exact HK.out | apply Kept.drewN))⟩, ⟨by repeat (first | (with_reducible first | exact HB.out | apply pw_below_drewN))⟩⟩
 case round =>
  clear H'
  try clear c1
  try clear p2
  obtain ⟨x2_1, x7_1, x9_1, rfl, rfl, HA, HK1, HO_2, HK, HB⟩ := hrel
  cases gk with
  | zero => exact absurd HA.out (by simp [compact_RangeNodes.l0])
  | succ k1 =>
   have H := HA.out
   clear HA
   simp only [compact_RangeNodes.l0] at H
   by_cases c5 : x7_1 = 0
   ·rw [if_pos c5] at H
    have c5b0 : (x7_1 == 0) = true := beq_iff_eq.mpr c5
    have c5b1 : (x7_1 != 0) = false := bne_eq_false_iff_eq.mpr c5
    clear c5
    have H' := Aside0.mk H
    clear H
    go_wp2
    try simp only [Act.put, List.setIfInBounds_toArray, List.set_cons_zero, List.set_cons_succ]
    go_loopg [2, 8, 9] k1 (fun kq v2 v8 v9 w' => ∃ (x2_2 : List (S99)) (x8_2 : Int) (x9_2 : Int), v8 = .int .u64 x8_2 ∧ v9 = .int .u64 x9_2 ∧ Aside0 (compact_RangeNodes.l1 kq x2_2 x8_2 x9_2 = some r) ∧ Aside0 (kq ≤ k1) ∧ Aside0 (Kd.R k99 99 w' w0.heap.size (fun k_ => (P2_ k_ ∨ w.heap.size ≤ k_)) v2 x2_2) ∧ Aside0 (Kept w w' (fun k_ => P2_ k_)) ∧ Aside0 (Below w0.heap.size w0 w'))
    case atStart => exact ⟨(x2_1), (t156), (x9_1), (by first | rfl), (by first | rfl), H', ⟨Nat.le_refl _⟩, ⟨by exact HO_2.out⟩, ⟨by repeat (first | (with_reducible first | exact HK.out))⟩, ⟨by repeat (first | (with_reducible first | exact HB.out))⟩⟩
    case round =>
     clear H'
     try clear c1
     try clear p2
     try clear c5
     try clear c5b0
     try clear c5b1
     try clear p2
     obtain ⟨x2_2, x8_2, x9_2, rfl, rfl, HA, HK2, HO_2, HK, HB⟩ := hrel
     cases gk with
     | zero => exact absurd HA.out (by simp [compact_RangeNodes.l1])
     | succ k2 =>
      have H := HA.out
      clear HA
      simp only [compact_RangeNodes.l1] at H
      by_cases c6 : x8_2 = 0
      ·rw [if_pos c6] at H
       have c6b0 : (x8_2 == 0) = true := beq_iff_eq.mpr c6
       have c6b1 : (x8_2 != 0) = false := bne_eq_false_iff_eq.mpr c6
       clear c6
       obtain rfl := Option.some.inj H
       go_wp2
       go_ret
       exact ⟨_, by first | rfl, by exact HO_2.out, by repeat (first | (with_reducible first | exact HB.out)), by repeat (first | (with_reducible first | exact HK.out))⟩
      ·rw [if_neg c6] at H
       have c6b0 : (x8_2 == 0) = false := beq_eq_false_iff_ne.mpr c6
       have c6b1 : (x8_2 != 0) = true := bne_iff_ne.mpr c6
       replace H := Option.bind_eq_some_iff.mp H
       obtain ⟨t163, A70, H⟩ := H
       replace H : (if 0 ≤ (IntKind.u64.wrap ((IntKind.u64.wrap (t163)) - 1)) then ((compact_NewNodeID.f (IntKind.u64.wrap ((IntKind.u64.wrap (t163)) - 1)) (shr .u64 x9_2 (IntKind.u64.wrap ((IntKind.u64.wrap (t163)) - 1)))).bind fun bt164 => (if x2_2.length < 8796093022208 then (compact_RangeNodes.l1 k2 (x2_2 ++ [(⟨bt164.1, bt164.2⟩ : S99)]) (Go.bits .xor .u64 x8_2 (shl .u64 1 (IntKind.u64.wrap ((IntKind.u64.wrap (t163)) - 1)))) (IntKind.u64.wrap (x9_2 + (shl .u64 1 (IntKind.u64.wrap ((IntKind.u64.wrap (t163)) - 1)))))) else (none))) else (none)) = some r := H
       have A7 := Aside0.mk A70
       clear A70
       obtain ⟨ji8, hji8⟩ : ∃ j_ : Int, (IntKind.u64.wrap ((IntKind.u64.wrap (t163)) - 1)) = j_ := ⟨_, rfl⟩
       replace H : (if 0 ≤ (ji8) then ((compact_NewNodeID.f (ji8) (shr .u64 x9_2 (ji8))).bind fun bt164 => (if x2_2.length < 8796093022208 then (compact_RangeNodes.l1 k2 (x2_2 ++ [(⟨bt164.1, bt164.2⟩ : S99)]) (Go.bits .xor .u64 x8_2 (shl .u64 1 (ji8))) (IntKind.u64.wrap (x9_2 + (shl .u64 1 (ji8))))) else (none))) else (none)) = some r := by first | (rw [hji8] at H; exact H)
       (try rw [hji8] at A7)
       by_cases c9 : 0 ≤ (ji8)
       ·rw [if_pos c9] at H
        have c9b0 := eq_true c9
        have c9b1 : decide (0 ≤ (ji8)) = true := decide_eq_true c9
        clear c9
        obtain ⟨ji10, hji10⟩ : ∃ j_ : Int, (shl .u64 1 (ji8)) = j_ := ⟨_, rfl⟩
        replace H : ((compact_NewNodeID.f (ji8) (shr .u64 x9_2 (ji8))).bind fun bt164 => (if x2_2.length < 8796093022208 then (compact_RangeNodes.l1 k2 (x2_2 ++ [(⟨bt164.1, bt164.2⟩ : S99)]) (Go.bits .xor .u64 x8_2 (ji10)) (IntKind.u64.wrap (x9_2 + (ji10)))) else (none))) = some r := by first | (rw [hji10] at H; exact H)
        (try rw [hji10] at A7)
        have hji10_ : (IntKind.u64.wrap (1 * 2 ^ min (ji8).toNat 64)) = ji10 := hji10
        have hji10z : (ji8) ≤ 64 → (IntKind.u64.wrap (1 * 2 ^ (ji8).toNat)) = ji10 := shl_small hji10
        have hji10u : (IntKind.u64.wrap (2 ^ min (ji8).toNat 64)) = ji10 := by have h_ := hji10_; rw [Int.one_mul] at h_; exact h_
        have hji10v : (ji8) ≤ 64 → (IntKind.u64.wrap (2 ^ (ji8).toNat)) = ji10 := fun hle_ => by have h_ := hji10z hle_; rw [Int.one_mul] at h_; exact h_
        have c11b0 := eq_true (of_decide_eq_true (by first | (with_reducible assumption)) : 0 ≤ (ji8))
        obtain ⟨ji12, hji12⟩ : ∃ j_ : Int, (shr .u64 x9_2 (ji8)) = j_ := ⟨_, rfl⟩
        replace H : ((compact_NewNodeID.f (ji8) (ji12)).bind fun bt164 => (if x2_2.length < 8796093022208 then (compact_RangeNodes.l1 k2 (x2_2 ++ [(⟨bt164.1, bt164.2⟩ : S99)]) (Go.bits .xor .u64 x8_2 (ji10)) (IntKind.u64.wrap (x9_2 + (ji10)))) else (none))) = some r := by first | (rw [hji12] at H; exact H)
        (try rw [hji12] at A7)
        have hji12_ : (x9_2 / 2 ^ min (ji8).toNat 64) = ji12 := hji12
        have hji12z : (ji8) ≤ 64 → (x9_2 / 2 ^ (ji8).toNat) = ji12 := shr_small hji12
        replace H := Option.bind_eq_some_iff.mp H
        obtain ⟨⟨t164, t165⟩, A130, H⟩ := H
        replace H : (if x2_2.length < 8796093022208 then (compact_RangeNodes.l1 k2 (x2_2 ++ [(⟨t164, t165⟩ : S99)]) (Go.bits .xor .u64 x8_2 (ji10)) (IntKind.u64.wrap (x9_2 + (ji10)))) else (none)) = some r := H
        have A13 := Aside0.mk A130
        clear A130
        by_cases c14 : x2_2.length < 8796093022208
        ·rw [if_pos c14] at H
         have LMc14 := Aside0.mk c14
         clear c14
         obtain ⟨y166, hy166⟩ : ∃ y_ : List (S99), y_ = (x2_2 ++ [(⟨t164, t165⟩ : S99)]) := ⟨_, rfl⟩
         replace H : (compact_RangeNodes.l1 k2 y166 (Go.bits .xor .u64 x8_2 (ji10)) (IntKind.u64.wrap (x9_2 + (ji10)))) = some r := by first | (rw [hy166]; with_reducible exact H)
         have Ny166 := Aside0.mk hy166
         clear hy166
         have H' := Aside0.mk H
         clear H
         go_wp2_with (first | ((with_reducible refine gate_callee (f := 109) rfl ?_); refine goesL_ (some 51) rfl rfl Tryd.func109 (by kernel_rfl) rfl #[.int .u64 x8_2] rfl (by (try simp only [List.map_toArray, List.map_cons, List.map_nil]); first | rfl) ?_; (with_reducible refine (bits_Len64.calls k2 x8_2 t163 _ A7.out).mono ?_); rintro e w' ⟨rfl, ⟨nd, rfl⟩⟩; refine ⟨_, rfl, ?_⟩) | ((with_reducible refine gate_callee (f := 94) rfl ?_); refine goesL_ (some 61) rfl rfl Tryd.func94 (by kernel_rfl) rfl #[.int .u64 ji8, .int .u64 ji12] rfl (by (try simp only [List.map_toArray, List.map_cons, List.map_nil]); first | rfl) ?_; (with_reducible refine (compact_NewNodeID.calls ji8 ji12 t164 t165 _ A13.out).mono ?_); rintro e w15 ⟨rfl, hb⟩; refine ⟨_, rfl, ?_⟩; have n0_ := Aside0.mk (Kd.R_below (by (with_reducible repeat (first | apply Kd.R_drewN)); exact HO_2.out) hb); have n1_ := Aside0.mk (Kept.below (S := (fun k_ => P2_ k_)) (by repeat (first | (with_reducible first | exact HK.out | apply Kept.drewN))) hb); have n2_ := Aside0.mk (below_step (by repeat (first | (with_reducible first | exact HB.out | apply pw_below_drewN))) hb); clear HO_2; clear HK; clear HB; have HO_2 := n0_; have HK := n1_; have HB := n2_; clear n0_ n1_ n2_; (try clear hb); (try clear hb2); (try clear hk); (try clear hi)) | ((with_reducible refine gate_builtin (b := .append) (xs := #[.tmp 56, .tmp 62]) rfl ?_); at_builtin; refine Kd.R_append k99 (w0 := w0) w0.heap.size rfl (.tmp 56) (.tmp 62) 110 99 (.agg #[(.int .u64 0), (.int .u64 0)]) 16 rfl Tryd.underlying110 info99 rfl (by decide) (by omega) u2 x2_2 (⟨t164, t165⟩ : S99) [.int .u64 t164, .int .u64 t165] (fun k_ => (P2_ k_ ∨ w.heap.size ≤ k_)) (fun _ => False) rfl rfl ?aP (fun _ hk => hk.elim) ?aF ?aO ?aB ?aS ?aL ?_; (case aP => exact k99_mkM _ _ _ (⟨t164, t165⟩ : S99)); (case aB => exact (by repeat (first | (with_reducible first | exact HB.out)))); (case aF => exact (fun k_ hk => (.inr (Nat.le_trans (by first | exact HK.out.1) hk)))); (case aO => exact (by exact HO_2.out)); (case aS => exact (below_size (by repeat (first | (with_reducible first | exact HB.out))))); (case aL => have := LMc14.out; omega); intro v167 w16 ho hb hg hat; rw [← Ny166.out] at ho; have n0_ := Aside0.mk (hb); have n1_ := Aside0.mk (Kept.of_grown (S := (fun k_ => P2_ k_)) hg (by repeat (first | (with_reducible first | exact HK.out))) (fun k_ e_ => (HO_2.out.1 k_ e_))); have n2_ := Aside0.mk (ho); clear HB; clear HK; clear HO_2; have HB := n0_; have HK := n1_; have HO168 := n2_; clear n0_ n1_ n2_; clear ho hb hg hat))
         go_roundg k2
         case measure => have := HK1.out; have := HK2.out; omega
         case rel => exact ⟨(y166), (Go.bits .xor .u64 x8_2 (ji10)), (IntKind.u64.wrap (x9_2 + (ji10))), (by first | rfl), (by first | rfl), H', ⟨by have := HK1.out; have := HK2.out; omega⟩, ⟨by exact HO168.out⟩, ⟨by repeat (first | (with_reducible first | exact HK.out))⟩, ⟨by repeat (first | (with_reducible first | exact HB.out))⟩⟩
        ·rw [if_neg c14] at H
         exact absurd H (by simp)
       ·rw [if_neg c9] at H
        exact absurd H (by simp)
   ·rw [if_neg c5] at H
    have c5b0 : (x7_1 == 0) = false := beq_eq_false_iff_ne.mpr c5
    have c5b1 : (x7_1 != 0) = true := bne_iff_ne.mpr c5
    replace H := Option.bind_eq_some_iff.mp H
    obtain ⟨t157, A170, H⟩ := H
    replace H : (if 0 ≤ (IntKind.u64.wrap (t157)) then ((compact_NewNodeID.f (IntKind.u64.wrap (t157)) (shr .u64 x9_1 (IntKind.u64.wrap (t157)))).bind fun bt158 => (if x2_1.length < 8796093022208 then (compact_RangeNodes.l0 k1 (x2_1 ++ [(⟨bt158.1, bt158.2⟩ : S99)]) (Go.bits .xor .u64 x7_1 (shl .u64 1 (IntKind.u64.wrap (t157)))) t156 (IntKind.u64.wrap (x9_1 + (shl .u64 1 (IntKind.u64.wrap (t157)))))) else (none))) else (none)) = some r := H
    have A17 := Aside0.mk A170
    clear A170
    obtain ⟨ji18, hji18⟩ : ∃ j_ : Int, (IntKind.u64.wrap (t157)) = j_ := ⟨_, rfl⟩
    replace H : (if 0 ≤ (ji18) then ((compact_NewNodeID.f (ji18) (shr .u64 x9_1 (ji18))).bind fun bt158 => (if x2_1.length < 8796093022208 then (compact_RangeNodes.l0 k1 (x2_1 ++ [(⟨bt158.1, bt158.2⟩ : S99)]) (Go.bits .xor .u64 x7_1 (shl .u64 1 (ji18))) t156 (IntKind.u64.wrap (x9_1 + (shl .u64 1 (ji18))))) else (none))) else (none)) = some r := by first | (rw [hji18] at H; exact H)
    (try rw [hji18] at A17)
    by_cases c19 : 0 ≤ (ji18)
    ·rw [if_pos c19] at H
     have c19b0 := eq_true c19
     have c19b1 : decide (0 ≤ (ji18)) = true := decide_eq_true c19
     clear c19
     obtain ⟨ji20, hji20⟩ : ∃ j_ : Int, (shl .u64 1 (ji18)) = j_ := ⟨_, rfl⟩
     replace H : ((compact_NewNodeID.f (ji18) (shr .u64 x9_1 (ji18))).bind fun bt158 => (if x2_1.length < 8796093022208 then (compact_RangeNodes.l0 k1 (x2_1 ++ [(⟨bt158.1, bt158.2⟩ : S99)]) (Go.bits .xor .u64 x7_1 (ji20)) t156 (IntKind.u64.wrap (x9_1 + (ji20)))) else (none))) = some r := by first | (rw [hji20] at H; exact H)
     (try rw [hji20] at A17)
     have hji20_ : (IntKind.u64.wrap (1 * 2 ^ min (ji18).toNat 64)) = ji20 := hji20
     have hji20z : (ji18) ≤ 64 → (IntKind.u64.wrap (1 * 2 ^ (ji18).toNat)) = ji20 := shl_small hji20
     have hji20u : (IntKind.u64.wrap (2 ^ min (ji18).toNat 64)) = ji20 := by have h_ := hji20_; rw [Int.one_mul] at h_; exact h_
     have hji20v : (ji18) ≤ 64 → (IntKind.u64.wrap (2 ^ (ji18).toNat)) = ji20 := fun hle_ => by have h_ := hji20z hle_; rw [Int.one_mul] at h_; exact h_
     have c21b0 := eq_true (of_decide_eq_true (by first | (with_reducible assumption)) : 0 ≤ (ji18))
     obtain ⟨ji22, hji22⟩ : ∃ j_ : Int, (shr .u64 x9_1 (ji18)) = j_ := ⟨_, rfl⟩
     replace H : ((compact_NewNodeID.f (ji18) (ji22)).bind fun bt158 => (if x2_1.length < 8796093022208 then (compact_RangeNodes.l0 k1 (x2_1 ++ [(⟨bt158.1, bt158.2⟩ : S99)]) (Go.bits .xor .u64 x7_1 (ji20)) t156 (IntKind.u64.wrap (x9_1 + (ji20)))) else (none))) = some r := by first | (rw [hji22] at H; exact H)
     (try rw [hji22] at A17)
     have hji22_ : (x9_1 / 2 ^ min (ji18).toNat 64) = ji22 := hji22
     have hji22z : (ji18) ≤ 64 → (x9_1 / 2 ^ (ji18).toNat) = ji22 := shr_small hji22
     replace H := Option.bind_eq_some_iff.mp H
     obtain ⟨⟨t158, t159⟩, A230, H⟩ := H
     replace H : (if x2_1.length < 8796093022208 then (compact_RangeNodes.l0 k1 (x2_1 ++ [(⟨t158, t159⟩ : S99)]) (Go.bits .xor .u64 x7_1 (ji20)) t156 (IntKind.u64.wrap (x9_1 + (ji20)))) else (none)) = some r := H
     have A23 := Aside0.mk A230
     clear A230
     by_cases c24 : x2_1.length < 8796093022208
     ·rw [if_pos c24] at H
      have LMc24 := Aside0.mk c24
      clear c24
      obtain ⟨y160, hy160⟩ : ∃ y_ : List (S99), y_ = (x2_1 ++ [(⟨t158, t159⟩ : S99)]) := ⟨_, rfl⟩
      replace H : (compact_RangeNodes.l0 k1 y160 (Go.bits .xor .u64 x7_1 (ji20)) t156 (IntKind.u64.wrap (x9_1 + (ji20)))) = some r := by first | (rw [hy160]; with_reducible exact H)
      have Ny160 := Aside0.mk hy160
      clear hy160
      have H' := Aside0.mk H
      clear H
      go_wp2_with (first | ((with_reducible refine gate_callee (f := 95) rfl ?_); refine goesL_ (some 30) rfl rfl Tryd.func95 (by kernel_rfl) rfl #[.int .u64 x7_1] rfl (by (try simp only [List.map_toArray, List.map_cons, List.map_nil]); first | rfl) ?_; (with_reducible refine (bits_TrailingZeros64.calls x7_1 t157 _ ?side1 A17.out).mono ?_); (case side1 => exact Glob.below hG (by repeat (first | (with_reducible first | exact HB.out)))); rintro e w' ⟨rfl, ⟨nd, rfl⟩⟩; refine ⟨_, rfl, ?_⟩) | ((with_reducible refine gate_callee (f := 94) rfl ?_); refine goesL_ (some 39) rfl rfl Tryd.func94 (by kernel_rfl) rfl #[.int .u64 ji18, .int .u64 ji22] rfl (by (try simp only [List.map_toArray, List.map_cons, List.map_nil]); first | rfl) ?_; (with_reducible refine (compact_NewNodeID.calls ji18 ji22 t158 t159 _ A23.out).mono ?_); rintro e w25 ⟨rfl, hb⟩; refine ⟨_, rfl, ?_⟩; have n0_ := Aside0.mk (Kd.R_below (by (with_reducible repeat (first | apply Kd.R_drewN)); exact HO_2.out) hb); have n1_ := Aside0.mk (Kept.below (S := (fun k_ => P2_ k_)) (by repeat (first | (with_reducible first | exact HK.out | apply Kept.drewN))) hb); have n2_ := Aside0.mk (below_step (by repeat (first | (with_reducible first | exact HB.out | apply pw_below_drewN))) hb); clear HO_2; clear HK; clear HB; have HO_2 := n0_; have HK := n1_; have HB := n2_; clear n0_ n1_ n2_; (try clear hb); (try clear hb2); (try clear hk); (try clear hi)) | ((with_reducible refine gate_builtin (b := .append) (xs := #[.tmp 34, .tmp 40]) rfl ?_); at_builtin; refine Kd.R_append k99 (w0 := w0) w0.heap.size rfl (.tmp 34) (.tmp 40) 110 99 (.agg #[(.int .u64 0), (.int .u64 0)]) 16 rfl Tryd.underlying110 info99 rfl (by decide) (by omega) u2 x2_1 (⟨t158, t159⟩ : S99) [.int .u64 t158, .int .u64 t159] (fun k_ => (P2_ k_ ∨ w.heap.size ≤ k_)) (fun _ => False) rfl rfl ?aP (fun _ hk => hk.elim) ?aF ?aO ?aB ?aS ?aL ?_; (case aP => exact k99_mkM _ _ _ (⟨t158, t159⟩ : S99)); (case aB => exact (by repeat (first | (with_reducible first | exact HB.out)))); (case aF => exact (fun k_ hk => (.inr (Nat.le_trans (by first | exact HK.out.1) hk)))); (case aO => exact (by exact HO_2.out)); (case aS => exact (below_size (by repeat (first | (with_reducible first | exact HB.out))))); (case aL => have := LMc24.out; omega); intro v161 w26 ho hb hg hat; rw [← Ny160.out] at ho; have n0_ := Aside0.mk (hb); have n1_ := Aside0.mk (Kept.of_grown (S := (fun k_ => P2_ k_)) hg (by repeat (first | (with_reducible first | exact HK.out))) (fun k_ e_ => (HO_2.out.1 k_ e_))); have n2_ := Aside0.mk (ho); clear HB; clear HK; clear HO_2; have HB := n0_; have HK := n1_; have HO162 := n2_; clear n0_ n1_ n2_; clear ho hb hg hat))
      go_roundg k1
      case measure => have := HK1.out; omega
      case rel => exact ⟨(y160), (Go.bits .xor .u64 x7_1 (ji20)), (IntKind.u64.wrap (x9_1 + (ji20))), (by first | rfl), (by first | rfl), H', ⟨by have := HK1.out; omega⟩, ⟨by exact HO162.out⟩, ⟨by repeat (first | (with_reducible first | exact HK.out))⟩, ⟨by repeat (first | (with_reducible first | exact HB.out))⟩⟩
     ·rw [if_neg c24] at H
      exact absurd H (by simp)
    ·rw [if_neg c19] at H
     exact absurd H (by simp)
def compact_NodeID_Coverage.f (a0_0 : Int) (a0_1 : Int) : Option (Int × Int) := if 0 ≤ a0_0 then (some (shl .u64 a0_1 a0_0, shl .u64 (IntKind.u64.wrap (a0_1 + 1)) a0_0)) else (none)
theorem compact_NodeID_Coverage.calls (a0_0 : Int) (a0_1 : Int) (r1 : Int) (r2 : Int) (w : World) (h : compact_NodeID_Coverage.f a0_0 a0_1 = some (r1, r2)) :
 Calls Tryd.prog 112 #[.agg #[.int .u64 a0_0, .int .u64 a0_1]] w fun e w' => e = .returned (.tuple #[.int .u64 r1, .int .u64 r2]) ∧ Below w.heap.size w w' := by
 have hu99 := Tryd.underlying99
 have HB := Aside0.mk (Below.refl w.heap.size w)
 have H : (if 0 ≤ a0_0 then (some (shl .u64 a0_1 a0_0, shl .u64 (IntKind.u64.wrap (a0_1 + 1)) a0_0)) else (none)) = some (r1, r2) := h
 clear h
 by_cases c2 : 0 ≤ a0_0
 ·rw [if_pos c2] at H
  have c2b0 := eq_true c2
  have c2b1 : decide (0 ≤ a0_0) = true := decide_eq_true c2
  clear c2
  obtain ⟨ji3, hji3⟩ : ∃ j_ : Int, (shl .u64 a0_1 a0_0) = j_ := ⟨_, rfl⟩
  replace H : (some (ji3, shl .u64 (IntKind.u64.wrap (a0_1 + 1)) a0_0)) = some (r1, r2) := by first | (rw [hji3] at H; exact H)
  have hji3_ : (IntKind.u64.wrap (a0_1 * 2 ^ min a0_0.toNat 64)) = ji3 := hji3
  have hji3z : a0_0 ≤ 64 → (IntKind.u64.wrap (a0_1 * 2 ^ a0_0.toNat)) = ji3 := shl_small hji3
  have c4b0 := eq_true (of_decide_eq_true (by first | (with_reducible assumption)) : 0 ≤ a0_0)
  obtain ⟨ji5, hji5⟩ : ∃ j_ : Int, (shl .u64 (IntKind.u64.wrap (a0_1 + 1)) a0_0) = j_ := ⟨_, rfl⟩
  replace H : (some (ji3, ji5)) = some (r1, r2) := by first | (rw [hji5] at H; exact H)
  have hji5_ : (IntKind.u64.wrap ((IntKind.u64.wrap (a0_1 + 1)) * 2 ^ min a0_0.toNat 64)) = ji5 := hji5
  have hji5z : a0_0 ≤ 64 → (IntKind.u64.wrap ((IntKind.u64.wrap (a0_1 + 1)) * 2 ^ a0_0.toNat)) = ji5 := shl_small hji5
  simp only [Option.some.injEq, Prod.mk.injEq] at H
  obtain ⟨rfl, rfl⟩ := H
  go_enter Tryd.func112, Tryd.ntmps112
  go_wp2_with (first | ((with_reducible refine gate_dst (N := 1) rfl ?_); refine box_event ?hg (N := 1) ?hd (cs := #[.int .u64 a0_0, .int .u64 a0_1]) (t := 99) ?hr ?_; (case hd => rfl); (case hg => rfl); (case hr => first | (go_simp; done)); intro gb169 hg w6 hbox hb; have n0_ := Aside0.mk (below_step (by repeat (first | (with_reducible first | exact HB.out))) hb); have n1_ := Aside0.mk (hbox); have n2_ := Aside0.mk ((by rw [hg]; exact (below_size (by repeat (first | (with_reducible first | exact HB.out)))) : w.heap.size ≤ gb169)); have n3_ := Aside0.mk ((by rw [hg]; exact (below_size (by repeat (first | (with_reducible first | exact HB.out)))) : w.heap.size ≤ gb169)); clear HB; have HB := n0_; have BK169 := n1_; have GW169 := n2_; have GE169 := n3_; clear n0_ n1_ n2_ n3_; clear hb hbox hg; have hcz7_0 : w6.cell? ⟨gb169, 0, none⟩ = some (.int .u64 a0_0) := (blk_cell BK169.out 0).trans rfl; have hcz7_1 : w6.cell? ⟨gb169, 1, none⟩ = some (.int .u64 a0_1) := (blk_cell BK169.out 1).trans rfl; have hfz7_0 := blk_frozen BK169.out 0; have hfz7_1 := blk_frozen BK169.out 1))
  repeat (go_quiet (first | ((with_reducible refine gate_dst (N := 1) rfl ?_); refine box_event ?hg (N := 1) ?hd (cs := #[.int .u64 a0_0, .int .u64 a0_1]) (t := 99) ?hr ?_; (case hd => rfl); (case hg => rfl); (case hr => first | (go_simp; rfl)); intro gb169 hg w6 hbox hb; have n0_ := Aside0.mk (below_step (by repeat (first | exact HB.out)) hb); have n1_ := Aside0.mk (hbox); have n2_ := Aside0.mk ((by rw [hg]; exact (below_size (by repeat (first | exact HB.out))) : w.heap.size ≤ gb169)); have n3_ := Aside0.mk ((by rw [hg]; exact (below_size (by repeat (first | exact HB.out))) : w.heap.size ≤ gb169)); clear HB; have HB := n0_; have BK169 := n1_; have GW169 := n2_; have GE169 := n3_; clear n0_ n1_ n2_ n3_; clear hb hbox hg; have hcz7_0 : w6.cell? ⟨gb169, 0, none⟩ = some (.int .u64 a0_0) := (blk_cell BK169.out 0).trans rfl; have hcz7_1 : w6.cell? ⟨gb169, 1, none⟩ = some (.int .u64 a0_1) := (blk_cell BK169.out 1).trans rfl; have hfz7_0 := blk_frozen BK169.out 0; have hfz7_1 := blk_frozen BK169.out 1)); try go_wp2_with (fail))
  go_ret2
  exact ⟨by first | rfl, by repeat (first | (with_reducible first | exact HB.out | apply pw_below_drewN))⟩
 ·rw [if_neg c2] at H
  exact absurd H (by simp)
def compact_NodeID_Parent.f (a0_0 : Int) (a0_1 : Int) : Option (Int × Int) := (compact_NewNodeID.f (IntKind.u64.wrap (a0_0 + 1)) (a0_1 / 2)).bind fun bt172 => (some (bt172.1, bt172.2))
theorem compact_NodeID_Parent.calls (a0_0 : Int) (a0_1 : Int) (r1 : Int) (r2 : Int) (w : World) (h : compact_NodeID_Parent.f a0_0 a0_1 = some (r1, r2)) :
 Calls Tryd.prog 113 #[.agg #[.int .u64 a0_0, .int .u64 a0_1]] w fun e w' => e = .returned (.agg #[.int .u64 r1, .int .u64 r2]) ∧ Below w.heap.size w w' := by
 have hu99 := Tryd.underlying99
 have HB := Aside0.mk (Below.refl w.heap.size w)
 have H : ((compact_NewNodeID.f (IntKind.u64.wrap (a0_0 + 1)) (a0_1 / 2)).bind fun bt172 => (some (bt172.1, bt172.2))) = some (r1, r2) := h
 clear h
 replace H := Option.bind_eq_some_iff.mp H
 obtain ⟨⟨t172, t173⟩, A20, H⟩ := H
 replace H : (some (t172, t173)) = some (r1, r2) := H
 have A2 := Aside0.mk A20
 clear A20
 simp only [Option.some.injEq, Prod.mk.injEq] at H
 obtain ⟨rfl, rfl⟩ := H
 go_enter Tryd.func113, Tryd.ntmps113
 go_wp2_with (first | ((with_reducible refine gate_dst (N := 1) rfl ?_); refine box_event ?hg (N := 1) ?hd (cs := #[.int .u64 a0_0, .int .u64 a0_1]) (t := 99) ?hr ?_; (case hd => rfl); (case hg => rfl); (case hr => first | (go_simp; done)); intro gb170 hg w3 hbox hb; have n0_ := Aside0.mk (below_step (by repeat (first | (with_reducible first | exact HB.out))) hb); have n1_ := Aside0.mk (hbox); have n2_ := Aside0.mk ((by rw [hg]; exact (below_size (by repeat (first | (with_reducible first | exact HB.out)))) : w.heap.size ≤ gb170)); have n3_ := Aside0.mk ((by rw [hg]; exact (below_size (by repeat (first | (with_reducible first | exact HB.out)))) : w.heap.size ≤ gb170)); clear HB; have HB := n0_; have BK170 := n1_; have GW170 := n2_; have GE170 := n3_; clear n0_ n1_ n2_ n3_; clear hb hbox hg) | ((with_reducible refine gate_dst (N := 2) rfl ?_); refine box_event ?hg (N := 2) ?hd (cs := #[.int .u64 0, .int .u64 0]) (t := 99) ?hr ?_; (case hd => rfl); (case hg => rfl); (case hr => first | (go_simp; done)); intro gb171 hg w4 hbox hb; have n0_ := Aside0.mk (blk_below (g := gb170) (o := .cells #[.int .u64 a0_0, .int .u64 a0_1] 99 (0, 0)) (by exact BK170.out) hb); have n1_ := Aside0.mk (below_step (by repeat (first | (with_reducible first | exact HB.out))) hb); have n2_ := Aside0.mk (hbox); have n3_ := Aside0.mk ((by rw [hg]; exact (below_size (by repeat (first | (with_reducible first | exact HB.out)))) : w.heap.size ≤ gb171)); have n4_ := Aside0.mk ((by rw [hg]; exact (below_size (by repeat (first | (with_reducible first | exact HB.out)))) : w.heap.size ≤ gb171)); have n5_ := Aside0.mk ((by rw [hg]; exact Nat.ne_of_lt (blk_lt (g := gb170) (o := .cells #[.int .u64 a0_0, .int .u64 a0_1] 99 (0, 0)) (by exact BK170.out)) : gb170 ≠ gb171)); have n6_ := Aside0.mk ((by rw [hg]; exact Nat.ne_of_gt (blk_lt (g := gb170) (o := .cells #[.int .u64 a0_0, .int .u64 a0_1] 99 (0, 0)) (by exact BK170.out)) : gb171 ≠ gb170)); clear BK170; clear HB; have BK170 := n0_; have HB := n1_; have BK171 := n2_; have GW171 := n3_; have GE171 := n4_; have NB170_171 := n5_; have NB171_170 := n6_; clear n0_ n1_ n2_ n3_ n4_ n5_ n6_; clear hb hbox hg; have hnb5 := NB170_171.out; have hnc5 := NB171_170.out; have hcz6_0 : w4.cell? ⟨gb170, 0, none⟩ = some (.int .u64 a0_0) := (blk_cell BK170.out 0).trans rfl; have hcz6_1 : w4.cell? ⟨gb170, 1, none⟩ = some (.int .u64 a0_1) := (blk_cell BK170.out 1).trans rfl; have hfz6_0 := blk_frozen BK170.out 0; have hfz6_1 := blk_frozen BK170.out 1) | ((with_reducible refine gate_callee (f := 94) rfl ?_); refine goesL_ (some 9) rfl rfl Tryd.func94 (by kernel_rfl) rfl #[.int .u64 (IntKind.u64.wrap (a0_0 + 1)), .int .u64 (a0_1 / 2)] rfl (by (try simp only [List.map_toArray, List.map_cons, List.map_nil]); first | rfl) ?_; (with_reducible refine (compact_NewNodeID.calls (IntKind.u64.wrap (a0_0 + 1)) (a0_1 / 2) t172 t173 _ A2.out).mono ?_); rintro e w7 ⟨rfl, hb⟩; refine ⟨_, rfl, ?_⟩; have n0_ := Aside0.mk (blk_below (g := gb170) (o := .cells #[.int .u64 a0_0, .int .u64 a0_1] 99 (0, 0)) (by exact BK170.out) hb); have n1_ := Aside0.mk (blk_below (g := gb171) (o := .cells #[.int .u64 0, .int .u64 0] 99 (0, 0)) (by exact BK171.out) hb); have n2_ := Aside0.mk (below_step (by repeat (first | (with_reducible first | exact HB.out))) hb); clear BK170; clear BK171; clear HB; have BK170 := n0_; have BK171 := n1_; have HB := n2_; clear n0_ n1_ n2_; (try clear hb); (try clear hb2); (try clear hk); (try clear hi); have hcz8_0 : w7.cell? ⟨gb171, 0, none⟩ = some (.int .u64 0) := (blk_cell BK171.out 0).trans rfl; have hcz8_1 : w7.cell? ⟨gb171, 1, none⟩ = some (.int .u64 0) := (blk_cell BK171.out 1).trans rfl; have hfz8_0 := blk_frozen BK171.out 0; have hfz8_1 := blk_frozen BK171.out 1))
 refine bodyPost_ret (results_cell_row rfl _ _ gb171 99 #[.int .u64 t172, .int .u64 t173] (0, 0) _ rfl (by refine blk_put (cs := #[.int .u64 t172, .int .u64 0]) ?_ 1 _ rfl; refine blk_put (cs := #[.int .u64 0, .int .u64 0]) ?_ 0 _ rfl; exact BK171.out) Tryd.underlying99 rfl (by kernel_rfl)) rfl ?_
 exact ⟨by first | rfl, by repeat (first | (with_reducible first | exact HB.out | refine below_set ?_ GE171.out))⟩
def compact_NodeID_Sibling.f (a0_0 : Int) (a0_1 : Int) : Option (Int × Int) := (compact_NewNodeID.f a0_0 (Go.bits .xor .u64 a0_1 1)).bind fun bt176 => (some (bt176.1, bt176.2))
theorem compact_NodeID_Sibling.calls (a0_0 : Int) (a0_1 : Int) (r1 : Int) (r2 : Int) (w : World) (h : compact_NodeID_Sibling.f a0_0 a0_1 = some (r1, r2)) :
 Calls Tryd.prog 114 #[.agg #[.int .u64 a0_0, .int .u64 a0_1]] w fun e w' => e = .returned (.agg #[.int .u64 r1, .int .u64 r2]) ∧ Below w.heap.size w w' := by
 have hu99 := Tryd.underlying99
 have HB := Aside0.mk (Below.refl w.heap.size w)
 have H : ((compact_NewNodeID.f a0_0 (Go.bits .xor .u64 a0_1 1)).bind fun bt176 => (some (bt176.1, bt176.2))) = some (r1, r2) := h
 clear h
 replace H := Option.bind_eq_some_iff.mp H
 obtain ⟨⟨t176, t177⟩, A20, H⟩ := H
 replace H : (some (t176, t177)) = some (r1, r2) := H
 have A2 := Aside0.mk A20
 clear A20
 simp only [Option.some.injEq, Prod.mk.injEq] at H
 obtain ⟨rfl, rfl⟩ := H
 go_enter Tryd.func114, Tryd.ntmps114
 go_wp2_with (first | ((with_reducible refine gate_dst (N := 1) rfl ?_); refine box_event ?hg (N := 1) ?hd (cs := #[.int .u64 a0_0, .int .u64 a0_1]) (t := 99) ?hr ?_; (case hd => rfl); (case hg => rfl); (case hr => first | (go_simp; done)); intro gb174 hg w3 hbox hb; have n0_ := Aside0.mk (below_step (by repeat (first | (with_reducible first | exact HB.out))) hb); have n1_ := Aside0.mk (hbox); have n2_ := Aside0.mk ((by rw [hg]; exact (below_size (by repeat (first | (with_reducible first | exact HB.out)))) : w.heap.size ≤ gb174)); have n3_ := Aside0.mk ((by rw [hg]; exact (below_size (by repeat (first | (with_reducible first | exact HB.out)))) : w.heap.size ≤ gb174)); clear HB; have HB := n0_; have BK174 := n1_; have GW174 := n2_; have GE174 := n3_; clear n0_ n1_ n2_ n3_; clear hb hbox hg) | ((with_reducible refine gate_dst (N := 2) rfl ?_); refine box_event ?hg (N := 2) ?hd (cs := #[.int .u64 0, .int .u64 0]) (t := 99) ?hr ?_; (case hd => rfl); (case hg => rfl); (case hr => first | (go_simp; done)); intro gb175 hg w4 hbox hb; have n0_ := Aside0.mk (blk_below (g := gb174) (o := .cells #[.int .u64 a0_0, .int .u64 a0_1] 99 (0, 0)) (by exact BK174.out) hb); have n1_ := Aside0.mk (below_step (by repeat (first | (with_reducible first | exact HB.out))) hb); have n2_ := Aside0.mk (hbox); have n3_ := Aside0.mk ((by rw [hg]; exact (below_size (by repeat (first | (with_reducible first | exact HB.out)))) : w.heap.size ≤ gb175)); have n4_ := Aside0.mk ((by rw [hg]; exact (below_size (by repeat (first | (with_reducible first | exact HB.out)))) : w.heap.size ≤ gb175)); have n5_ := Aside0.mk ((by rw [hg]; exact Nat.ne_of_lt (blk_lt (g := gb174) (o := .cells #[.int .u64 a0_0, .int .u64 a0_1] 99 (0, 0)) (by exact BK174.out)) : gb174 ≠ gb175)); have n6_ := Aside0.mk ((by rw [hg]; exact Nat.ne_of_gt (blk_lt (g := gb174) (o := .cells #[.int .u64 a0_0, .int .u64 a0_1] 99 (0, 0)) (by exact BK174.out)) : gb175 ≠ gb174)); clear BK174; clear HB; have BK174 := n0_; have HB := n1_; have BK175 := n2_; have GW175 := n3_; have GE175 := n4_; have NB174_175 := n5_; have NB175_174 := n6_; clear n0_ n1_ n2_ n3_ n4_ n5_ n6_; clear hb hbox hg; have hnb5 := NB174_175.out; have hnc5 := NB175_174.out; have hcz6_0 : w4.cell? ⟨gb174, 0, none⟩ = some (.int .u64 a0_0) := (blk_cell BK174.out 0).trans rfl; have hcz6_1 : w4.cell? ⟨gb174, 1, none⟩ = some (.int .u64 a0_1) := (blk_cell BK174.out 1).trans rfl; have hfz6_0 := blk_frozen BK174.out 0; have hfz6_1 := blk_frozen BK174.out 1) | ((with_reducible refine gate_callee (f := 94) rfl ?_); refine goesL_ (some 8) rfl rfl Tryd.func94 (by kernel_rfl) rfl #[.int .u64 a0_0, .int .u64 (Go.bits .xor .u64 a0_1 1)] rfl (by (try simp only [List.map_toArray, List.map_cons, List.map_nil]); first | rfl) ?_; (with_reducible refine (compact_NewNodeID.calls a0_0 (Go.bits .xor .u64 a0_1 1) t176 t177 _ A2.out).mono ?_); rintro e w7 ⟨rfl, hb⟩; refine ⟨_, rfl, ?_⟩; have n0_ := Aside0.mk (blk_below (g := gb174) (o := .cells #[.int .u64 a0_0, .int .u64 a0_1] 99 (0, 0)) (by exact BK174.out) hb); have n1_ := Aside0.mk (blk_below (g := gb175) (o := .cells #[.int .u64 0, .int .u64 0] 99 (0, 0)) (by exact BK175.out) hb); have n2_ := Aside0.mk (below_step (by repeat (first | (with_reducible first | exact HB.out))) hb); clear BK174; clear BK175; clear HB; have BK174 := n0_; have BK175 := n1_; have HB := n2_; clear n0_ n1_ n2_; (try clear hb); (try clear hb2); (try clear hk); (try clear hi); have hcz8_0 : w7.cell? ⟨gb175, 0, none⟩ = some (.int .u64 0) := (blk_cell BK175.out 0).trans rfl; have hcz8_1 : w7.cell? ⟨gb175, 1, none⟩ = some (.int .u64 0) := (blk_cell BK175.out 1).trans rfl; have hfz8_0 := blk_frozen BK175.out 0; have hfz8_1 := blk_frozen BK175.out 1))
 refine bodyPost_ret (results_cell_row rfl _ _ gb175 99 #[.int .u64 t176, .int .u64 t177] (0, 0) _ rfl (by refine blk_put (cs := #[.int .u64 t176, .int .u64 0]) ?_ 1 _ rfl; refine blk_put (cs := #[.int .u64 0, .int .u64 0]) ?_ 0 _ rfl; exact BK175.out) Tryd.underlying99 rfl (by kernel_rfl)) rfl ?_
 exact ⟨by first | rfl, by repeat (first | (with_reducible first | exact HB.out | refine below_set ?_ GE175.out))⟩
def proof_Nodes_skipFirst.f (l0_0 : List (S99)) (a0_1 : Int) (a0_2 : Int) (a0_3 : Int) (a0_4 : Int) : Option ((List (S99)) × Int × Int × Int × Int) := if 1 ≤ (l0_0.length : Int) then ((some (l0_0.drop (1 : Int).toNat : List (S99))).bind fun y180 => (if a0_1 < a0_2 then (some (y180, wrap64 (a0_1 - 1), wrap64 (a0_2 - 1), a0_3, a0_4)) else (some (y180, a0_1, a0_2, a0_3, a0_4)))) else (none)
theorem proof_Nodes_skipFirst.calls (P0_0_ : Nat → Prop) (u9000_ : Value) (l0_0 : List (S99)) (a0_1 : Int) (a0_2 : Int) (a0_3 : Int) (a0_4 : Int) (r1 : List (S99)) (r2 : Int) (r3 : Int) (r4 : Int) (r5 : Int) (w0 w : World) (hB : Below w0.heap.size w0 w) (ho0_0 : Kd.R k99 99 w w0.heap.size P0_0_ u9000_ l0_0) (h : proof_Nodes_skipFirst.f l0_0 a0_1 a0_2 a0_3 a0_4 = some (r1, r2, r3, r4, r5)) :
 Calls Tryd.prog 97 #[.agg #[u9000_, .int .i64 a0_1, .int .i64 a0_2, .int .u64 a0_3, .int .u64 a0_4]] w fun e w' => ∃ v0_ : Value, e = .returned (.agg #[v0_, .int .i64 r2, .int .i64 r3, .int .u64 r4, .int .u64 r5]) ∧ Kd.Q k99 99 w' w0.heap.size (fun k_ => (P0_0_ k_ ∨ w.heap.size ≤ k_)) v0_ r1 ∧ Below w0.heap.size w0 w' ∧ Kept w w' (fun k_ => P0_0_ k_) := by
 have hu112 := Tryd.underlying112
 have HO0_0 := Aside0.mk (show Kd.R k99 99 w w0.heap.size (fun k_ => (P0_0_ k_ ∨ w.heap.size ≤ k_)) u9000_ l0_0 from Kd.R_mono ho0_0 (fun k_ hk => (.inl hk)))
 have HK := Aside0.mk (Kept.refl w (fun k_ => P0_0_ k_))
 have HW0 := Aside0.mk hB.size
 have HB := Aside0.mk hB
 clear hB
 have H : (if 1 ≤ (l0_0.length : Int) then ((some (l0_0.drop (1 : Int).toNat : List (S99))).bind fun y180 => (if a0_1 < a0_2 then (some (y180, wrap64 (a0_1 - 1), wrap64 (a0_2 - 1), a0_3, a0_4)) else (some (y180, a0_1, a0_2, a0_3, a0_4)))) else (none)) = some (r1, r2, r3, r4, r5) := h
 clear h
 by_cases c2 : 1 ≤ (l0_0.length : Int)
 ·rw [if_pos c2] at H
  have c2b0 := eq_true c2
  have c2b1 : decide (1 ≤ (l0_0.length : Int)) = true := decide_eq_true c2
  clear c2
  obtain ⟨y180, hy180⟩ : ∃ y_ : List (S99), y_ = (l0_0.drop (1 : Int).toNat) := ⟨_, rfl⟩
  replace H : (if a0_1 < a0_2 then (some (y180, wrap64 (a0_1 - 1), wrap64 (a0_2 - 1), a0_3, a0_4)) else (some (y180, a0_1, a0_2, a0_3, a0_4))) = some (r1, r2, r3, r4, r5) := by first | (have H2_ := (Option.bind_some _ _).symm.trans H; rw [hy180]; with_reducible exact H2_)
  have Ny180 := Aside0.mk hy180
  clear hy180
  by_cases c3 : a0_1 < a0_2
  ·rw [if_pos c3] at H
   have c3b0 : decide (a0_1 < a0_2) = true := decide_eq_true c3
   clear c3
   simp only [Option.some.injEq, Prod.mk.injEq] at H
   obtain ⟨rfl, rfl, rfl, rfl, rfl⟩ := H
   obtain ⟨Ao4, co4, eo4⟩ := Kd.R_slice HO0_0.out
   subst eo4
   go_enter Tryd.func97, Tryd.ntmps97
   go_wp2_with (first | ((with_reducible refine gate_dst (N := 1) rfl ?_); refine box_event ?hg (N := 1) ?hd (cs := #[.slice Ao4 l0_0.length co4, .int .i64 a0_1, .int .i64 a0_2, .int .u64 a0_3, .int .u64 a0_4]) (t := 112) ?hr ?_; (case hd => rfl); (case hg => rfl); (case hr => first | (go_simp; done)); intro gb178 hg w5 hbox hb; have n0_ := Aside0.mk (Kd.R_below (by exact HO0_0.out) hb); have n1_ := Aside0.mk (Kept.below (S := (fun k_ => P0_0_ k_)) (by repeat (first | (with_reducible first | exact HK.out))) hb); have n2_ := Aside0.mk (below_step (by repeat (first | (with_reducible first | exact HB.out))) hb); have n3_ := Aside0.mk (hbox); have n4_ := Aside0.mk ((by rw [hg]; exact (by first | exact HK.out.1) : w.heap.size ≤ gb178)); have n5_ := Aside0.mk ((by rw [hg]; exact (below_size (by repeat (first | (with_reducible first | exact HB.out)))) : w0.heap.size ≤ gb178)); clear HO0_0; clear HK; clear HB; have HO0_0 := n0_; have HK := n1_; have HB := n2_; have BK178 := n3_; have GW178 := n4_; have GE178 := n5_; clear n0_ n1_ n2_ n3_ n4_ n5_; clear hb hbox hg) | ((with_reducible refine gate_dst (N := 2) rfl ?_); refine box_event ?hg (N := 2) ?hd (cs := #[.slice none 0 0, .int .i64 0, .int .i64 0, .int .u64 0, .int .u64 0]) (t := 112) ?hr ?_; (case hd => rfl); (case hg => rfl); (case hr => first | (go_simp; done)); intro gb179 hg w6 hbox hb; have n0_ := Aside0.mk (Kd.R_below (by exact HO0_0.out) hb); have n1_ := Aside0.mk (blk_below (g := gb178) (o := .cells #[.slice Ao4 l0_0.length co4, .int .i64 a0_1, .int .i64 a0_2, .int .u64 a0_3, .int .u64 a0_4] 112 (0, 0)) (by exact BK178.out) hb); have n2_ := Aside0.mk (Kept.below (S := (fun k_ => P0_0_ k_)) (by repeat (first | (with_reducible first | exact HK.out))) hb); have n3_ := Aside0.mk (below_step (by repeat (first | (with_reducible first | exact HB.out))) hb); have n4_ := Aside0.mk (hbox); have n5_ := Aside0.mk ((by rw [hg]; exact (by first | exact HK.out.1) : w.heap.size ≤ gb179)); have n6_ := Aside0.mk ((by rw [hg]; exact (below_size (by repeat (first | (with_reducible first | exact HB.out)))) : w0.heap.size ≤ gb179)); have n7_ := Aside0.mk ((by rw [hg]; exact Nat.ne_of_lt (blk_lt (g := gb178) (o := .cells #[.slice Ao4 l0_0.length co4, .int .i64 a0_1, .int .i64 a0_2, .int .u64 a0_3, .int .u64 a0_4] 112 (0, 0)) (by exact BK178.out)) : gb178 ≠ gb179)); have n8_ := Aside0.mk ((by rw [hg]; exact Nat.ne_of_gt (blk_lt (g := gb178) (o := .cells #[.slice Ao4 l0_0.length co4, .int .i64 a0_1, .int .i64 a0_2, .int .u64 a0_3, .int .u64 a0_4] 112 (0, 0)) (by exact BK178.out)) : gb179 ≠ gb178)); clear HO0_0; clear BK178; clear HK; clear HB; have HO0_0 := n0_; have BK178 := n1_; have HK := n2_; have HB := n3_; have BK179 := n4_; have GW179 := n5_; have GE179 := n6_; have NB178_179 := n7_; have NB179_178 := n8_; clear n0_ n1_ n2_ n3_ n4_ n5_ n6_ n7_ n8_; clear hb hbox hg; have hnb7 := NB178_179.out; have hnc7 := NB179_178.out; have hcz8_0 : w6.cell? ⟨gb178, 0, none⟩ = some (.slice Ao4 l0_0.length co4) := (blk_cell BK178.out 0).trans rfl; have hcz8_1 : w6.cell? ⟨gb178, 1, none⟩ = some (.int .i64 a0_1) := (blk_cell BK178.out 1).trans rfl; have hcz8_2 : w6.cell? ⟨gb178, 2, none⟩ = some (.int .i64 a0_2) := (blk_cell BK178.out 2).trans rfl; have hcz8_3 : w6.cell? ⟨gb178, 3, none⟩ = some (.int .u64 a0_3) := (blk_cell BK178.out 3).trans rfl; have hcz8_4 : w6.cell? ⟨gb178, 4, none⟩ = some (.int .u64 a0_4) := (blk_cell BK178.out 4).trans rfl; have hfz8_0 := blk_frozen BK178.out 0; have hfz8_1 := blk_frozen BK178.out 1; have hfz8_2 := blk_frozen BK178.out 2; have hfz8_3 := blk_frozen BK178.out 3; have hfz8_4 := blk_frozen BK178.out 4; have q9 : (1 : Int) ≤ ((l0_0.length : Int) : Int) := of_decide_eq_true (by first | (with_reducible assumption)); obtain ⟨i09, hi09, _, hsz9, _⟩ := info_parts info99; have hcut9 := cut_from (P := Tryd.prog) 110 99 .i64 Tryd.underlying110 hi09 2 hsz9 Ao4 l0_0.length co4 1 (by omega) q9; have hr9 := Kd.Q_drop (k := (1 : Int).toNat) (Kd.Q_of_R HO0_0.out) (by omega); obtain ⟨A9, hA9⟩ : ∃ A1_, A1_ = (if co4 = (1 : Int).toNat then Ao4 else (Ao4 : Option Addr).map (·.add ((1 : Int).toNat * 2))) := ⟨_, rfl⟩; obtain ⟨c9, hc9⟩ : ∃ c1_, c1_ = co4 - (1 : Int).toNat := ⟨_, rfl⟩; have hy9 : y180.length = l0_0.length - (1 : Int).toNat := (by rw [Ny180.out, List.length_drop]); rw [← Ny180.out] at hr9; rw [← hy9, ← hA9, ← hc9] at hcut9; replace hr9 : Kd.Q k99 99 w6 w0.heap.size (fun k_ => (P0_0_ k_ ∨ w.heap.size ≤ k_)) (.slice A9 y180.length c9) y180 := (by rw [hA9, hc9, hy9]; exact hr9); have HE9 : Aside0 ((Value.slice A9 y180.length c9).ownBlock = (.slice Ao4 l0_0.length co4 : Value).ownBlock) := ⟨by rw [hA9]; split <;> (cases (Ao4 : Option Addr) <;> rfl)⟩; clear hy9 hi09 hsz9 HO0_0 hA9 hc9; have HO182 := Aside0.mk hr9; clear hr9; replace q9 := eq_true q9; have hcz10_0 : w6.cell? ⟨gb179, 0, none⟩ = some (.slice none 0 0) := (blk_cell BK179.out 0).trans rfl; have hcz10_1 : w6.cell? ⟨gb179, 1, none⟩ = some (.int .i64 0) := (blk_cell BK179.out 1).trans rfl; have hcz10_2 : w6.cell? ⟨gb179, 2, none⟩ = some (.int .i64 0) := (blk_cell BK179.out 2).trans rfl; have hcz10_3 : w6.cell? ⟨gb179, 3, none⟩ = some (.int .u64 0) := (blk_cell BK179.out 3).trans rfl; have hcz10_4 : w6.cell? ⟨gb179, 4, none⟩ = some (.int .u64 0) := (blk_cell BK179.out 4).trans rfl; have hfz10_0 := blk_frozen BK179.out 0; have hfz10_1 := blk_frozen BK179.out 1; have hfz10_2 := blk_frozen BK179.out 2; have hfz10_3 := blk_frozen BK179.out 3; have hfz10_4 := blk_frozen BK179.out 4))
   refine bodyPost_ret (results_cell_row rfl _ _ gb179 112 #[.slice A9 y180.length c9, .int .i64 (wrap64 (a0_1 - 1)), .int .i64 (wrap64 (a0_2 - 1)), .int .u64 a0_3, .int .u64 a0_4] (0, 0) _ rfl (by refine blk_put (cs := #[.slice A9 y180.length c9, .int .i64 (wrap64 (a0_1 - 1)), .int .i64 (wrap64 (a0_2 - 1)), .int .u64 a0_3, .int .u64 0]) ?_ 4 _ rfl; refine blk_put (cs := #[.slice A9 y180.length c9, .int .i64 (wrap64 (a0_1 - 1)), .int .i64 (wrap64 (a0_2 - 1)), .int .u64 0, .int .u64 0]) ?_ 3 _ rfl; refine blk_put (cs := #[.slice A9 y180.length c9, .int .i64 (wrap64 (a0_1 - 1)), .int .i64 0, .int .u64 0, .int .u64 0]) ?_ 2 _ rfl; refine blk_put (cs := #[.slice A9 y180.length c9, .int .i64 0, .int .i64 0, .int .u64 0, .int .u64 0]) ?_ 1 _ rfl; refine blk_put (cs := #[.slice none 0 0, .int .i64 0, .int .i64 0, .int .u64 0, .int .u64 0]) ?_ 0 _ rfl; refine blk_far ?_ NB179_178.out _; refine blk_far ?_ NB179_178.out _; refine blk_far ?_ NB179_178.out _; exact BK179.out) Tryd.underlying112 rfl (by kernel_rfl)) rfl ?_
   exact ⟨_, by first | rfl, by exact Kd.Q_mono (Kd.Q_far (p := ⟨gb179, 4, none⟩) (Kd.Q_far (p := ⟨gb179, 3, none⟩) (Kd.Q_far (p := ⟨gb179, 2, none⟩) (Kd.Q_far (p := ⟨gb179, 1, none⟩) (Kd.Q_far (p := ⟨gb179, 0, none⟩) (Kd.Q_far (p := ⟨gb178, 2, none⟩) (Kd.Q_far (p := ⟨gb178, 1, none⟩) (Kd.Q_far (p := ⟨gb178, 0, none⟩) (Kd.Q_types (Kd.Q_types HO182.out BK178.out (by decide)) BK179.out (by decide)) (fun _ hk => hk.1.2) (.slice A9 y180.length c9)) (fun _ hk => hk.1.2) (.int .i64 (wrap64 (a0_1 - 1)))) (fun _ hk => hk.1.2) (.int .i64 (wrap64 (a0_2 - 1)))) (fun _ hk => hk.2) (.slice A9 y180.length c9)) (fun _ hk => hk.2) (.int .i64 (wrap64 (a0_1 - 1)))) (fun _ hk => hk.2) (.int .i64 (wrap64 (a0_2 - 1)))) (fun _ hk => hk.2) (.int .u64 a0_3)) (fun _ hk => hk.2) (.int .u64 a0_4)) (fun _ hk => hk.1.1), by repeat (first | (with_reducible first | exact HB.out | refine below_set ?_ GE178.out | refine below_set ?_ GE179.out)), by repeat (first | (with_reducible first | exact HK.out | refine Kept.setCell ?_ (.inr GW178.out) _ | refine Kept.setCell ?_ (.inr GW179.out) _))⟩
  ·rw [if_neg c3] at H
   have c3b0 : decide (a0_1 < a0_2) = false := decide_eq_false c3
   clear c3
   simp only [Option.some.injEq, Prod.mk.injEq] at H
   obtain ⟨rfl, rfl, rfl, rfl, rfl⟩ := H
   obtain ⟨Ao11, co11, eo11⟩ := Kd.R_slice HO0_0.out
   subst eo11
   go_enter Tryd.func97, Tryd.ntmps97
   go_wp2_with (first | ((with_reducible refine gate_dst (N := 1) rfl ?_); refine box_event ?hg (N := 1) ?hd (cs := #[.slice Ao11 l0_0.length co11, .int .i64 a0_1, .int .i64 a0_2, .int .u64 a0_3, .int .u64 a0_4]) (t := 112) ?hr ?_; (case hd => rfl); (case hg => rfl); (case hr => first | (go_simp; done)); intro gb178 hg w12 hbox hb; have n0_ := Aside0.mk (Kd.R_below (by exact HO0_0.out) hb); have n1_ := Aside0.mk (Kept.below (S := (fun k_ => P0_0_ k_)) (by repeat (first | (with_reducible first | exact HK.out))) hb); have n2_ := Aside0.mk (below_step (by repeat (first | (with_reducible first | exact HB.out))) hb); have n3_ := Aside0.mk (hbox); have n4_ := Aside0.mk ((by rw [hg]; exact (by first | exact HK.out.1) : w.heap.size ≤ gb178)); have n5_ := Aside0.mk ((by rw [hg]; exact (below_size (by repeat (first | (with_reducible first | exact HB.out)))) : w0.heap.size ≤ gb178)); clear HO0_0; clear HK; clear HB; have HO0_0 := n0_; have HK := n1_; have HB := n2_; have BK178 := n3_; have GW178 := n4_; have GE178 := n5_; clear n0_ n1_ n2_ n3_ n4_ n5_; clear hb hbox hg) | ((with_reducible refine gate_dst (N := 2) rfl ?_); refine box_event ?hg (N := 2) ?hd (cs := #[.slice none 0 0, .int .i64 0, .int .i64 0, .int .u64 0, .int .u64 0]) (t := 112) ?hr ?_; (case hd => rfl); (case hg => rfl); (case hr => first | (go_simp; done)); intro gb179 hg w13 hbox hb; have n0_ := Aside0.mk (Kd.R_below (by exact HO0_0.out) hb); have n1_ := Aside0.mk (blk_below (g := gb178) (o := .cells #[.slice Ao11 l0_0.length co11, .int .i64 a0_1, .int .i64 a0_2, .int .u64 a0_3, .int .u64 a0_4] 112 (0, 0)) (by exact BK178.out) hb); have n2_ := Aside0.mk (Kept.below (S := (fun k_ => P0_0_ k_)) (by repeat (first | (with_reducible first | exact HK.out))) hb); have n3_ := Aside0.mk (below_step (by repeat (first | (with_reducible first | exact HB.out))) hb); have n4_ := Aside0.mk (hbox); have n5_ := Aside0.mk ((by rw [hg]; exact (by first | exact HK.out.1) : w.heap.size ≤ gb179)); have n6_ := Aside0.mk ((by rw [hg]; exact (below_size (by repeat (first | (with_reducible first | exact HB.out)))) : w0.heap.size ≤ gb179)); have n7_ := Aside0.mk ((by rw [hg]; exact Nat.ne_of_lt (blk_lt (g := gb178) (o := .cells #[.slice Ao11 l0_0.length co11, .int .i64 a0_1, .int .i64 a0_2, .int .u64 a0_3, .int .u64 a0_4] 112 (0, 0)) (by exact BK178.out)) : gb178 ≠ gb179)); have n8_ := Aside0.mk ((by rw [hg]; exact Nat.ne_of_gt (blk_lt (g := gb178) (o := .cells #[.slice Ao11 l0_0.length co11, .int .i64 a0_1, .int .i64 a0_2, .int .u64 a0_3, .int .u64 a0_4] 112 (0, 0)) (by exact BK178.out)) : gb179 ≠ gb178)); clear HO0_0; clear BK178; clear HK; clear HB; have HO0_0 := n0_; have BK178 := n1_; have HK := n2_; have HB := n3_; have BK179 := n4_; have GW179 := n5_; have GE179 := n6_; have NB178_179 := n7_; have NB179_178 := n8_; clear n0_ n1_ n2_ n3_ n4_ n5_ n6_ n7_ n8_; clear hb hbox hg; have hnb14 := NB178_179.out; have hnc14 := NB179_178.out; have hcz15_0 : w13.cell? ⟨gb178, 0, none⟩ = some (.slice Ao11 l0_0.length co11) := (blk_cell BK178.out 0).trans rfl; have hcz15_1 : w13.cell? ⟨gb178, 1, none⟩ = some (.int .i64 a0_1) := (blk_cell BK178.out 1).trans rfl; have hcz15_2 : w13.cell? ⟨gb178, 2, none⟩ = some (.int .i64 a0_2) := (blk_cell BK178.out 2).trans rfl; have hcz15_3 : w13.cell? ⟨gb178, 3, none⟩ = some (.int .u64 a0_3) := (blk_cell BK178.out 3).trans rfl; have hcz15_4 : w13.cell? ⟨gb178, 4, none⟩ = some (.int .u64 a0_4) := (blk_cell BK178.out 4).trans rfl; have hfz15_0 := blk_frozen BK178.out 0; have hfz15_1 := blk_frozen BK178.out 1; have hfz15_2 := blk_frozen BK178.out 2; have hfz15_3 := blk_frozen BK178.out 3; have hfz15_4 := blk_frozen BK178.out 4; have q16 : (1 : Int) ≤ ((l0_0.length : Int) : Int) := of_decide_eq_true (by first | (with_reducible assumption)); obtain ⟨i016, hi016, _, hsz16, _⟩ := info_parts info99; have hcut16 := cut_from (P := Tryd.prog) 110 99 .i64 Tryd.underlying110 hi016 2 hsz16 Ao11 l0_0.length co11 1 (by omega) q16; have hr16 := Kd.Q_drop (k := (1 : Int).toNat) (Kd.Q_of_R HO0_0.out) (by omega); obtain ⟨A16, hA16⟩ : ∃ A1_, A1_ = (if co11 = (1 : Int).toNat then Ao11 else (Ao11 : Option Addr).map (·.add ((1 : Int).toNat * 2))) := ⟨_, rfl⟩; obtain ⟨c16, hc16⟩ : ∃ c1_, c1_ = co11 - (1 : Int).toNat := ⟨_, rfl⟩; have hy16 : y180.length = l0_0.length - (1 : Int).toNat := (by rw [Ny180.out, List.length_drop]); rw [← Ny180.out] at hr16; rw [← hy16, ← hA16, ← hc16] at hcut16; replace hr16 : Kd.Q k99 99 w13 w0.heap.size (fun k_ => (P0_0_ k_ ∨ w.heap.size ≤ k_)) (.slice A16 y180.length c16) y180 := (by rw [hA16, hc16, hy16]; exact hr16); have HE16 : Aside0 ((Value.slice A16 y180.length c16).ownBlock = (.slice Ao11 l0_0.length co11 : Value).ownBlock) := ⟨by rw [hA16]; split <;> (cases (Ao11 : Option Addr) <;> rfl)⟩; clear hy16 hi016 hsz16 HO0_0 hA16 hc16; have HO182 := Aside0.mk hr16; clear hr16; replace q16 := eq_true q16; have hcz17_0 : w13.cell? ⟨gb179, 0, none⟩ = some (.slice none 0 0) := (blk_cell BK179.out 0).trans rfl; have hcz17_1 : w13.cell? ⟨gb179, 1, none⟩ = some (.int .i64 0) := (blk_cell BK179.out 1).trans rfl; have hcz17_2 : w13.cell? ⟨gb179, 2, none⟩ = some (.int .i64 0) := (blk_cell BK179.out 2).trans rfl; have hcz17_3 : w13.cell? ⟨gb179, 3, none⟩ = some (.int .u64 0) := (blk_cell BK179.out 3).trans rfl; have hcz17_4 : w13.cell? ⟨gb179, 4, none⟩ = some (.int .u64 0) := (blk_cell BK179.out 4).trans rfl; have hfz17_0 := blk_frozen BK179.out 0; have hfz17_1 := blk_frozen BK179.out 1; have hfz17_2 := blk_frozen BK179.out 2; have hfz17_3 := blk_frozen BK179.out 3; have hfz17_4 := blk_frozen BK179.out 4))
   refine bodyPost_ret (results_cell_row rfl _ _ gb179 112 #[.slice A16 y180.length c16, .int .i64 a0_1, .int .i64 a0_2, .int .u64 a0_3, .int .u64 a0_4] (0, 0) _ rfl (by refine blk_put (cs := #[.slice A16 y180.length c16, .int .i64 a0_1, .int .i64 a0_2, .int .u64 a0_3, .int .u64 0]) ?_ 4 _ rfl; refine blk_put (cs := #[.slice A16 y180.length c16, .int .i64 a0_1, .int .i64 a0_2, .int .u64 0, .int .u64 0]) ?_ 3 _ rfl; refine blk_put (cs := #[.slice A16 y180.length c16, .int .i64 a0_1, .int .i64 0, .int .u64 0, .int .u64 0]) ?_ 2 _ rfl; refine blk_put (cs := #[.slice A16 y180.length c16, .int .i64 0, .int .i64 0, .int .u64 0, .int .u64 0]) ?_ 1 _ rfl; refine blk_put (cs := #[.slice none 0 0, .int .i64 0, .int .i64 0, .int .u64 0, .int .u64 0]) ?_ 0 _ rfl; refine blk_far ?_ NB179_178.out _; exact BK179.out) Tryd.underlying112 rfl (by kernel_rfl)) rfl ?_
   exact ⟨_, by first | rfl, by exact Kd.Q_mono (Kd.Q_far (p := ⟨gb179, 4, none⟩) (Kd.Q_far (p := ⟨gb179, 3, none⟩) (Kd.Q_far (p := ⟨gb179, 2, none⟩) (Kd.Q_far (p := ⟨gb179, 1, none⟩) (Kd.Q_far (p := ⟨gb179, 0, none⟩) (Kd.Q_far (p := ⟨gb178, 0, none⟩) (Kd.Q_types (Kd.Q_types HO182.out BK178.out (by decide)) BK179.out (by decide)) (fun _ hk => hk.1.2) (.slice A16 y180.length c16)) (fun _ hk => hk.2) (.slice A16 y180.length c16)) (fun _ hk => hk.2) (.int .i64 a0_1)) (fun _ hk => hk.2) (.int .i64 a0_2)) (fun _ hk => hk.2) (.int .u64 a0_3)) (fun _ hk => hk.2) (.int .u64 a0_4)) (fun _ hk => hk.1.1), by repeat (first | (with_reducible first | exact HB.out | refine below_set ?_ GE178.out | refine below_set ?_ GE179.out)), by repeat (first | (with_reducible first | exact HK.out | refine Kept.setCell ?_ (.inr GW178.out) _ | refine Kept.setCell ?_ (.inr GW179.out) _))⟩
 ·rw [if_neg c2] at H
  exact absurd H (by simp)
def impl_fromNode.f (a0_0 : Int) (a0_1 : Int) : Option (Int × Int) := some (a0_0, a0_1)
theorem impl_fromNode.calls (a0_0 : Int) (a0_1 : Int) (r1 : Int) (r2 : Int) (w : World) (h : impl_fromNode.f a0_0 a0_1 = some (r1, r2)) :
 Calls Tryd.prog 54 #[.agg #[.int .u64 a0_0, .int .u64 a0_1]] w fun e w' => e = .returned (.agg #[.int .u64 r1, .int .u64 r2]) ∧ Below w.heap.size w w' := by
 have hu99 := Tryd.underlying99
 have hu49 := Tryd.underlying49
 have HB := Aside0.mk (Below.refl w.heap.size w)
 have H : (some (a0_0, a0_1)) = some (r1, r2) := h
 clear h
 simp only [Option.some.injEq, Prod.mk.injEq] at H
 obtain ⟨rfl, rfl⟩ := H
 go_enter Tryd.func54, Tryd.ntmps54
 go_wp2_with (first | ((with_reducible refine gate_dst (N := 1) rfl ?_); refine box_event ?hg (N := 1) ?hd (cs := #[.int .u64 a0_0, .int .u64 a0_1]) (t := 99) ?hr ?_; (case hd => rfl); (case hg => rfl); (case hr => first | (go_simp; done)); intro gb183 hg w2 hbox hb; have n0_ := Aside0.mk (below_step (by repeat (first | (with_reducible first | exact HB.out))) hb); have n1_ := Aside0.mk (hbox); have n2_ := Aside0.mk ((by rw [hg]; exact (below_size (by repeat (first | (with_reducible first | exact HB.out)))) : w.heap.size ≤ gb183)); have n3_ := Aside0.mk ((by rw [hg]; exact (below_size (by repeat (first | (with_reducible first | exact HB.out)))) : w.heap.size ≤ gb183)); clear HB; have HB := n0_; have BK183 := n1_; have GW183 := n2_; have GE183 := n3_; clear n0_ n1_ n2_ n3_; clear hb hbox hg) | ((with_reducible refine gate_dst (N := 2) rfl ?_); refine box_event ?hg (N := 2) ?hd (cs := #[.int .u64 0, .int .u64 0]) (t := 49) ?hr ?_; (case hd => rfl); (case hg => rfl); (case hr => first | (go_simp; done)); intro gb184 hg w3 hbox hb; have n0_ := Aside0.mk (blk_below (g := gb183) (o := .cells #[.int .u64 a0_0, .int .u64 a0_1] 99 (0, 0)) (by exact BK183.out) hb); have n1_ := Aside0.mk (below_step (by repeat (first | (with_reducible first | exact HB.out))) hb); have n2_ := Aside0.mk (hbox); have n3_ := Aside0.mk ((by rw [hg]; exact (below_size (by repeat (first | (with_reducible first | exact HB.out)))) : w.heap.size ≤ gb184)); have n4_ := Aside0.mk ((by rw [hg]; exact (below_size (by repeat (first | (with_reducible first | exact HB.out)))) : w.heap.size ≤ gb184)); have n5_ := Aside0.mk ((by rw [hg]; exact Nat.ne_of_lt (blk_lt (g := gb183) (o := .cells #[.int .u64 a0_0, .int .u64 a0_1] 99 (0, 0)) (by exact BK183.out)) : gb183 ≠ gb184)); have n6_ := Aside0.mk ((by rw [hg]; exact Nat.ne_of_gt (blk_lt (g := gb183) (o := .cells #[.int .u64 a0_0, .int .u64 a0_1] 99 (0, 0)) (by exact BK183.out)) : gb184 ≠ gb183)); clear BK183; clear HB; have BK183 := n0_; have HB := n1_; have BK184 := n2_; have GW184 := n3_; have GE184 := n4_; have NB183_184 := n5_; have NB184_183 := n6_; clear n0_ n1_ n2_ n3_ n4_ n5_ n6_; clear hb hbox hg; have hnb4 := NB183_184.out; have hnc4 := NB184_183.out; have hcz5_0 : w3.cell? ⟨gb183, 0, none⟩ = some (.int .u64 a0_0) := (blk_cell BK183.out 0).trans rfl; have hcz5_1 : w3.cell? ⟨gb183, 1, none⟩ = some (.int .u64 a0_1) := (blk_cell BK183.out 1).trans rfl; have hfz5_0 := blk_frozen BK183.out 0; have hfz5_1 := blk_frozen BK183.out 1; have hcz6_0 : w3.cell? ⟨gb184, 0, none⟩ = some (.int .u64 0) := (blk_cell BK184.out 0).trans rfl; have hcz6_1 : w3.cell? ⟨gb184, 1, none⟩ = some (.int .u64 0) := (blk_cell BK184.out 1).trans rfl; have hfz6_0 := blk_frozen BK184.out 0; have hfz6_1 := blk_frozen BK184.out 1))
 refine bodyPost_ret (results_cell_row rfl _ _ gb184 49 #[.int .u64 a0_0, .int .u64 a0_1] (0, 0) _ rfl (by refine blk_put (cs := #[.int .u64 a0_0, .int .u64 0]) ?_ 1 _ rfl; refine blk_put (cs := #[.int .u64 0, .int .u64 0]) ?_ 0 _ rfl; exact BK184.out) Tryd.underlying49 rfl (by kernel_rfl)) rfl ?_
 exact ⟨by first | rfl, by repeat (first | (with_reducible first | exact HB.out | refine below_set ?_ GE184.out))⟩
def proof_Nodes_Ephem.f (l0_0 : List (S99)) (a0_1 : Int) (a0_2 : Int) (a0_3 : Int) (a0_4 : Int) : Option (Int × Int × Int × Int) := some (a0_3, a0_4, a0_1, a0_2)
def proof_Nodes_Ephem.T1 : Bool × List (List Nat × List Nat) := (true, [([], []), ([0], [0]), ([], []), ([2], [2]), ([], []), ([4], [4]), ([1, 0, 1], [1]), ([3, 6, 0, 1, 2, 3, 6], [3]), ([5, 7, 0, 1, 2, 3, 4, 5, 6, 7], [5])])
def proof_Nodes_Ephem.B1 : List Nat := [0, 1, 0, 4, 0, 16, 3, 79, 255]
theorem proof_Nodes_Ephem.tab1 : rtab .any (opsOf Tryd.f99 1) = proof_Nodes_Ephem.T1 := by kernel_rfl
theorem proof_Nodes_Ephem.bits1 : waitsOk proof_Nodes_Ephem.T1.2 proof_Nodes_Ephem.B1 = true := by kernel_rfl
theorem proof_Nodes_Ephem.calls (A0_0 : Option Addr) (c0_0 : Nat) (l0_0 : List (S99)) (a0_1 : Int) (a0_2 : Int) (a0_3 : Int) (a0_4 : Int) (r1 : Int) (r2 : Int) (r3 : Int) (r4 : Int) (w : World) (hr0_0 : Kd.C k99 w A0_0 l0_0.length l0_0) (hc0_0 : l0_0.length ≤ c0_0) (h : proof_Nodes_Ephem.f l0_0 a0_1 a0_2 a0_3 a0_4 = some (r1, r2, r3, r4)) :
 Calls Tryd.prog 99 #[.agg #[.slice A0_0 l0_0.length c0_0, .int .i64 a0_1, .int .i64 a0_2, .int .u64 a0_3, .int .u64 a0_4]] w fun e w' => e = .returned (.tuple #[.agg #[.int .u64 r1, .int .u64 r2], .int .i64 r3, .int .i64 r4]) ∧ Below w.heap.size w w' := by
 have hu112 := Tryd.underlying112
 have hu99 := Tryd.underlying99
 have HR0_0 := Aside0.mk hr0_0
 have HC0_0 := Aside0.mk hc0_0
 clear hr0_0 hc0_0
 have HB := Aside0.mk (Below.refl w.heap.size w)
 have H : (some (a0_3, a0_4, a0_1, a0_2)) = some (r1, r2, r3, r4) := h
 clear h
 simp only [Option.some.injEq, Prod.mk.injEq] at H
 obtain ⟨rfl, rfl, rfl, rfl⟩ := H
 go_enter Tryd.func99, Tryd.ntmps99
 try go_wp2_with (first | ((with_reducible refine gate_dst (N := 1) rfl ?_); refine box_event ?hg (N := 1) ?hd (cs := #[.slice A0_0 l0_0.length c0_0, .int .i64 a0_1, .int .i64 a0_2, .int .u64 a0_3, .int .u64 a0_4]) (t := 112) ?hr ?_; (case hd => rfl); (case hg => rfl); (case hr => first | (go_simp; done)); intro gb185 hg w2 hbox hb; have n0_ := Aside0.mk (below_step (by repeat (first | (with_reducible first | exact HB.out))) hb); have n1_ := Aside0.mk (hbox); have n2_ := Aside0.mk ((by rw [hg]; exact (below_size (by repeat (first | (with_reducible first | exact HB.out)))) : w.heap.size ≤ gb185)); have n3_ := Aside0.mk ((by rw [hg]; exact (below_size (by repeat (first | (with_reducible first | exact HB.out)))) : w.heap.size ≤ gb185)); clear HB; have HB := n0_; have BK185 := n1_; have GW185 := n2_; have GE185 := n3_; clear n0_ n1_ n2_ n3_; clear hb hbox hg) | ((with_reducible refine gate_dst (N := 2) rfl ?_); refine box_event ?hg (N := 2) ?hd (cs := #[.int .u64 0, .int .u64 0]) (t := 99) ?hr ?_; (case hd => rfl); (case hg => rfl); (case hr => first | (go_simp; done)); intro gb186 hg w3 hbox hb; have n0_ := Aside0.mk (blk_below (g := gb185) (o := .cells #[.slice A0_0 l0_0.length c0_0, .int .i64 a0_1, .int .i64 a0_2, .int .u64 a0_3, .int .u64 a0_4] 112 (0, 0)) (by exact BK185.out) hb); have n1_ := Aside0.mk (below_step (by repeat (first | (with_reducible first | exact HB.out))) hb); have n2_ := Aside0.mk (hbox); have n3_ := Aside0.mk ((by rw [hg]; exact (below_size (by repeat (first | (with_reducible first | exact HB.out)))) : w.heap.size ≤ gb186)); have n4_ := Aside0.mk ((by rw [hg]; exact (below_size (by repeat (first | (with_reducible first | exact HB.out)))) : w.heap.size ≤ gb186)); have n5_ := Aside0.mk ((by rw [hg]; exact Nat.ne_of_lt (blk_lt (g := gb185) (o := .cells #[.slice A0_0 l0_0.length c0_0, .int .i64 a0_1, .int .i64 a0_2, .int .u64 a0_3, .int .u64 a0_4] 112 (0, 0)) (by exact BK185.out)) : gb185 ≠ gb186)); have n6_ := Aside0.mk ((by rw [hg]; exact Nat.ne_of_gt (blk_lt (g := gb185) (o := .cells #[.slice A0_0 l0_0.length c0_0, .int .i64 a0_1, .int .i64 a0_2, .int .u64 a0_3, .int .u64 a0_4] 112 (0, 0)) (by exact BK185.out)) : gb186 ≠ gb185)); clear BK185; clear HB; have BK185 := n0_; have HB := n1_; have BK186 := n2_; have GW186 := n3_; have GE186 := n4_; have NB185_186 := n5_; have NB186_185 := n6_; clear n0_ n1_ n2_ n3_ n4_ n5_ n6_; clear hb hbox hg))
 (try (rw [drewN_self w3]; generalize hq_ : World.drewN w3 _ = w3; have n0_ : Aside0 (w3.heap[gb185]? = some (.cells #[.slice A0_0 l0_0.length c0_0, .int .i64 a0_1, .int .i64 a0_2, .int .u64 a0_3, .int .u64 a0_4] 112 (0, 0))) := ⟨by rw [← hq_]; exact (by exact BK185.out)⟩; have n1_ : Aside0 (w3.heap[gb186]? = some (.cells #[.int .u64 0, .int .u64 0] 99 (0, 0))) := ⟨by rw [← hq_]; exact (by exact BK186.out)⟩; have n2_ : Aside0 (Below w.heap.size w w3) := ⟨by rw [← hq_]; exact (by repeat (first | exact HB.out))⟩; clear BK185 BK186 HB hq_; have BK185 := n0_; have BK186 := n1_; have HB := n2_; clear n0_ n1_ n2_))
 have n0_ := Aside0.mk (blk_drew BK185.out)
 have n1_ := Aside0.mk (blk_drew BK186.out)
 have n2_ := Aside0.mk (below_drew1 HB.out)
 clear BK185
 clear BK186
 clear HB
 have BK185 := n0_
 have BK186 := n1_
 have HB := n2_
 clear n0_ n1_ n2_
 refine start_ (n := 9) (S := fun w' => w'.cell? ⟨gb185, 0, none⟩ = some (.slice A0_0 l0_0.length c0_0) ∧ w'.cell? ⟨gb185, 1, none⟩ = some (.int .i64 a0_1) ∧ w'.cell? ⟨gb185, 2, none⟩ = some (.int .i64 a0_2) ∧ w'.cell? ⟨gb185, 3, none⟩ = some (.int .u64 a0_3) ∧ w'.cell? ⟨gb185, 4, none⟩ = some (.int .u64 a0_4)) (ds := []) #[false, false, false, false, false, false, false, false, false] (by kernel_rfl) rfl rfl ⟨(blk_cell BK185.out 0).trans rfl, (blk_cell BK185.out 1).trans rfl, (blk_cell BK185.out 2).trans rfl, (blk_cell BK185.out 3).trans rfl, (blk_cell BK185.out 4).trans rfl⟩ (fun hHeld => ?_); refine with_tabW proof_Nodes_Ephem.tab1 proof_Nodes_Ephem.bits1 (fun HT_ HW_ => ?_)
 generalize w3.drew = w4 at BK185 BK186 HB hHeld ⊢
 refine pure_ (i := 0) (N := some 5) (v := ?_) (a' := ?_) #[true, false, false, false, false, false, false, false, false] rfl rfl (any_of HT_.out (by kernel_rfl)) (fun _ _ _ h => h) (Or.inl ⟨by rfl, ?_⟩) ?_ ?_
 rotate_left
 ·intro w'
  go_simp
  with_reducible rfl
 rotate_left
 ·simp only [Act.put, List.setIfInBounds_toArray, List.set_cons_zero, List.set_cons_succ, i64_w, i32_w]
  rfl
 refine pure_ (i := 2) (N := some 7) (v := ?_) (a' := ?_) #[true, false, true, false, false, false, false, false, false] rfl rfl (any_of HT_.out (by kernel_rfl)) (fun _ _ _ h => h) (Or.inl ⟨by rfl, ?_⟩) ?_ ?_
 rotate_left
 ·intro w'
  go_simp
  with_reducible rfl
 rotate_left
 ·simp only [Act.put, List.setIfInBounds_toArray, List.set_cons_zero, List.set_cons_succ, i64_w, i32_w]
  rfl
 refine pure_ (i := 4) (N := some 9) (v := ?_) (a' := ?_) #[true, false, true, false, true, false, false, false, false] rfl rfl (any_of HT_.out (by kernel_rfl)) (fun _ _ _ h => h) (Or.inl ⟨by rfl, ?_⟩) ?_ ?_
 rotate_left
 ·intro w'
  go_simp
  with_reducible rfl
 rotate_left
 ·simp only [Act.put, List.setIfInBounds_toArray, List.set_cons_zero, List.set_cons_succ, i64_w, i32_w]
  rfl
 refine take_ (i := 1) (N := some 6) (v := ?_) (a' := ?_) #[true, true, true, false, true, false, false, false, false] rfl rfl (take_ofW HT_.out HW_.out (by kernel_rfl)) (fun _ _ _ h => h) (Or.inl ⟨by rfl, ?_⟩) hHeld ?_ ?_
 rotate_left
 ·rintro w' ⟨s0, s1, s2, s3, s4⟩
  go_simp
  with_reducible rfl
 rotate_left
 ·simp only [Act.put, List.setIfInBounds_toArray, List.set_cons_zero, List.set_cons_succ, i64_w, i32_w]
  rfl
 refine take_ (i := 3) (N := some 8) (v := ?_) (a' := ?_) #[true, true, true, true, true, false, false, false, false] rfl rfl (take_ofW HT_.out HW_.out (by kernel_rfl)) (fun _ _ _ h => h) (Or.inl ⟨by rfl, ?_⟩) hHeld ?_ ?_
 rotate_left
 ·rintro w' ⟨s0, s1, s2, s3, s4⟩
  go_simp
  with_reducible rfl
 rotate_left
 ·simp only [Act.put, List.setIfInBounds_toArray, List.set_cons_zero, List.set_cons_succ, i64_w, i32_w]
  rfl
 refine take_ (i := 5) (N := some 10) (v := ?_) (a' := ?_) #[true, true, true, true, true, true, false, false, false] rfl rfl (take_ofW HT_.out HW_.out (by kernel_rfl)) (fun _ _ _ h => h) (Or.inl ⟨by rfl, ?_⟩) hHeld ?_ ?_
 rotate_left
 ·rintro w' ⟨s0, s1, s2, s3, s4⟩
  go_simp
  with_reducible rfl
 rotate_left
 ·simp only [Act.put, List.setIfInBounds_toArray, List.set_cons_zero, List.set_cons_succ, i64_w, i32_w]
  rfl
 refine one_ (i := 6) (N := none) #[true, true, true, true, true, true, true, false, false] rfl rfl (one_of HT_.out (by kernel_rfl)) (by decide) (fun K hK => ?_)
 have hs5 : w4.cell? ⟨gb186, 0, none⟩ = some (.int .u64 0) := (blk_cell BK186.out 0).trans rfl
 have hfs5 := blk_frozen BK186.out 0
 have hns5_0 := NB185_186.out
 have hms5_0 := NB186_185.out
 have hs6 : w4.cell? ⟨gb186, 1, none⟩ = some (.int .u64 0) := (blk_cell BK186.out 1).trans rfl
 have hfs6 := blk_frozen BK186.out 1
 have hns6_0 := NB185_186.out
 have hms6_0 := NB186_185.out
 refine skip_ (w1 := ?_) (by rfl) rfl ?_ ?_
 rotate_left
 ·go_simp
  rfl
 refine hK.out _ _ ⟨((cell_far (p := ⟨gb186, _, none⟩) NB185_186.out _).trans (((cell_far (p := ⟨gb186, _, none⟩) NB185_186.out _).trans (hHeld.1)))), ((cell_far (p := ⟨gb186, _, none⟩) NB185_186.out _).trans (((cell_far (p := ⟨gb186, _, none⟩) NB185_186.out _).trans (hHeld.2.1)))), ((cell_far (p := ⟨gb186, _, none⟩) NB185_186.out _).trans (((cell_far (p := ⟨gb186, _, none⟩) NB185_186.out _).trans (hHeld.2.2.1)))), ((cell_far (p := ⟨gb186, _, none⟩) NB185_186.out _).trans (((cell_far (p := ⟨gb186, _, none⟩) NB185_186.out _).trans (hHeld.2.2.2.1)))), ((cell_far (p := ⟨gb186, _, none⟩) NB185_186.out _).trans (((cell_far (p := ⟨gb186, _, none⟩) NB185_186.out _).trans (hHeld.2.2.2.2))))⟩ (fun hHeld => ?_)
 clear hK K
 refine pure_ (i := 7) (N := some 3) (v := ?_) (a' := ?_) #[true, true, true, true, true, true, true, true, false] rfl rfl (any_of HT_.out (by kernel_rfl)) (fun _ _ _ h => h) (Or.inl ⟨by rfl, ?_⟩) ?_ ?_
 rotate_left
 ·intro w'
  go_simp
  with_reducible rfl
 rotate_left
 ·simp only [Act.put, List.setIfInBounds_toArray, List.set_cons_zero, List.set_cons_succ, i64_w, i32_w]
  rfl
 refine pure_ (i := 8) (N := some 4) (v := ?_) (a' := ?_) #[true, true, true, true, true, true, true, true, true] rfl rfl (any_of HT_.out (by kernel_rfl)) (fun _ _ _ h => h) (Or.inl ⟨by rfl, ?_⟩) ?_ ?_
 rotate_left
 ·intro w'
  go_simp
  with_reducible rfl
 rotate_left
 ·simp only [Act.put, List.setIfInBounds_toArray, List.set_cons_zero, List.set_cons_succ, i64_w, i32_w]
  rfl
 refine done_ (done_of HT_.out (by kernel_rfl)) ?_
 try go_wp2
 refine bodyPost_ret (results_ctt rfl _ _ gb186 99 #[.int .u64 a0_3, .int .u64 a0_4] (0, 0) _ rfl (by refine blk_put (cs := #[.int .u64 a0_3, .int .u64 0]) ?_ 1 _ rfl; refine blk_put (cs := #[.int .u64 0, .int .u64 0]) ?_ 0 _ rfl; exact BK186.out) Tryd.underlying99 rfl (by kernel_rfl)) rfl ?_
 exact ⟨by first | rfl, by repeat (first | (with_reducible first | exact HB.out | refine below_set ?_ GE186.out))⟩
def impl_fromNodes.l0 : Nat → List (S49) → List (S99) → Int → Int → Option ((List (S49)))
 | 0, _, _, _, _ => none
 | k + 1, x3, x6, x7, x8 => if x8 < x7 then (if 0 ≤ x8 then (if x8 < (x6.length : Int) then ((impl_fromNode.f ((rd_T99 x6 x8).f0) ((rd_T99 x6 x8).f1)).bind fun bt189 => (if x3.length < 8796093022208 then (impl_fromNodes.l0 k (x3 ++ [(⟨bt189.1, bt189.2⟩ : S49)]) x6 x7 (wrap64 (x8 + 1))) else (none))) else (none)) else (none)) else (some x3)
def impl_fromNodes.f (k : Nat) (l0 : List (S99)) : Option ((List (S49))) := impl_fromNodes.l0 k ([] : List (S49)) l0 (l0.length : Int) 0
theorem impl_fromNodes.calls (k : Nat) (A0 : Option Addr) (c0 : Nat) (l0 : List (S99)) (r : List (S49)) (w : World) (hr0 : Kd.C k99 w A0 l0.length l0) (hc0 : l0.length ≤ c0) (h : impl_fromNodes.f k l0 = some r) :
 Calls Tryd.prog 100 #[.slice A0 l0.length c0] w fun e w' => ∃ v0_ : Value, e = .returned (v0_) ∧ Kd.R k49 49 w' w.heap.size (fun _ => True) v0_ r ∧ Below w.heap.size w w' := by
 have hu99 := Tryd.underlying99
 have HR0 := Aside0.mk hr0
 have HC0 := Aside0.mk hc0
 clear hr0 hc0
 have HB := Aside0.mk (Below.refl w.heap.size w)
 have H : (impl_fromNodes.l0 k ([] : List (S49)) l0 (l0.length : Int) 0) = some r := h
 clear h
 have H' := Aside0.mk H
 clear H
 go_enter Tryd.func100, Tryd.ntmps100
 go_wp2
 try simp only [Act.put, List.setIfInBounds_toArray, List.set_cons_zero, List.set_cons_succ]
 go_loopg [3, 8] k (fun kq v3 v8 w' => ∃ (x3_1 : List (S49)) (x8_1 : Int), v8 = .int .i64 x8_1 ∧ Aside0 (impl_fromNodes.l0 kq x3_1 l0 (l0.length : Int) x8_1 = some r) ∧ Aside0 (kq ≤ k) ∧ Aside0 (Kd.R k49 49 w' w.heap.size (fun _ => True) v3 x3_1) ∧ Aside0 (Below w.heap.size w w'))
 case atStart => exact ⟨(([] : List (S49))), (0), (by first | rfl), H', ⟨Nat.le_refl _⟩, ⟨by first | exact Kd.R_nil _ _ _ _ _⟩, ⟨by repeat (first | (with_reducible first | exact HB.out))⟩⟩
 case round =>
  clear H'
  try clear c1
  obtain ⟨x3_1, x8_1, rfl, HA, HK1, HO_3, HB⟩ := hrel
  cases gk with
  | zero => exact absurd HA.out (by simp [impl_fromNodes.l0])
  | succ k1 =>
   have H := HA.out
   clear HA
   simp only [impl_fromNodes.l0] at H
   by_cases c2 : x8_1 < (l0.length : Int)
   ·rw [if_pos c2] at H
    have c2b0 : decide (x8_1 < (l0.length : Int)) = true := decide_eq_true c2
    clear c2
    by_cases c3 : 0 ≤ x8_1
    ·rw [if_pos c3] at H
     have c3b0 : decide (0 ≤ x8_1) = true := decide_eq_true c3
     clear c3
     by_cases c4 : x8_1 < (l0.length : Int)
     ·rw [if_pos c4] at H
      have c4b0 : decide (x8_1 < (l0.length : Int)) = true := decide_eq_true c4
      clear c4
      replace H := Option.bind_eq_some_iff.mp H
      obtain ⟨⟨t189, t190⟩, A50, H⟩ := H
      replace H : (if x3_1.length < 8796093022208 then (impl_fromNodes.l0 k1 (x3_1 ++ [(⟨t189, t190⟩ : S49)]) l0 (l0.length : Int) (wrap64 (x8_1 + 1))) else (none)) = some r := H
      have A5 := Aside0.mk A50
      clear A50
      by_cases c6 : x3_1.length < 8796093022208
      ·rw [if_pos c6] at H
       have LMc6 := Aside0.mk c6
       clear c6
       obtain ⟨y191, hy191⟩ : ∃ y_ : List (S49), y_ = (x3_1 ++ [(⟨t189, t190⟩ : S49)]) := ⟨_, rfl⟩
       replace H : (impl_fromNodes.l0 k1 y191 l0 (l0.length : Int) (wrap64 (x8_1 + 1))) = some r := by first | (rw [hy191]; with_reducible exact H)
       have Ny191 := Aside0.mk hy191
       clear hy191
       have H' := Aside0.mk H
       clear H
       have p187 : 0 ≤ (x8_1 : Int) := of_decide_eq_true (by first | (with_reducible assumption))
       have q187 : x8_1 < (l0.length : Int) := of_decide_eq_true (by first | (with_reducible assumption))
       obtain ⟨ad187, e187, hx187_0, hx187_1⟩ := at_T99 HR0.out x8_1 p187 q187
       cases e187
       replace hx187_0 := (HB.out.cell (World.block_lt_of_cell? w _ hx187_0)).trans hx187_0
       replace hx187_1 := (HB.out.cell (World.block_lt_of_cell? w _ hx187_1)).trans hx187_1
       replace p187 := eq_true p187
       replace q187 := eq_true q187
       go_wp2_with (first | ((with_reducible refine gate_dst (N := 5) rfl ?_); refine box_event ?hg (N := 5) ?hd (cs := #[.int .u64 0, .int .u64 0]) (t := 99) ?hr ?_; (case hd => rfl); (case hg => rfl); (case hr => first | (go_simp; done)); intro gb188 hg w7 hbox hb; have n0_ := Aside0.mk (Kd.R_below (by exact HO_3.out) hb); have n1_ := Aside0.mk (below_step (by repeat (first | (with_reducible first | exact HB.out))) hb); have n2_ := Aside0.mk (hbox); have n3_ := Aside0.mk ((by rw [hg]; exact (below_size (by repeat (first | (with_reducible first | exact HB.out)))) : w.heap.size ≤ gb188)); have n4_ := Aside0.mk ((by rw [hg]; exact (below_size (by repeat (first | (with_reducible first | exact HB.out)))) : w.heap.size ≤ gb188)); clear HO_3; clear HB; have HO_3 := n0_; have HB := n1_; have BK188 := n2_; have GW188 := n3_; have GE188 := n4_; clear n0_ n1_ n2_ n3_ n4_; clear hb hbox hg; have hcz8_0 : w7.cell? ⟨gb188, 0, none⟩ = some (.int .u64 0) := (blk_cell BK188.out 0).trans rfl; have hcz8_1 : w7.cell? ⟨gb188, 1, none⟩ = some (.int .u64 0) := (blk_cell BK188.out 1).trans rfl; have hfz8_0 := blk_frozen BK188.out 0; have hfz8_1 := blk_frozen BK188.out 1) | ((with_reducible refine gate_callee (f := 54) rfl ?_); refine goesL_ (some 14) rfl rfl Tryd.func54 (by kernel_rfl) rfl #[.agg #[.int .u64 ((rd_T99 l0 x8_1).f0), .int .u64 ((rd_T99 l0 x8_1).f1)]] rfl (by (try simp only [List.map_toArray, List.map_cons, List.map_nil]); first | rfl) ?_; (with_reducible refine (impl_fromNode.calls ((rd_T99 l0 x8_1).f0) ((rd_T99 l0 x8_1).f1) t189 t190 _ A5.out).mono ?_); rintro e w9 ⟨rfl, hb⟩; refine ⟨_, rfl, ?_⟩; have n0_ := Aside0.mk (Kd.R_below (by exact (Kd.R_mono (Kd.R_far (p := ⟨gb188, 1, none⟩) (Kd.R_far (p := ⟨gb188, 0, none⟩) (Kd.R_types HO_3.out BK188.out (by decide)) (fun _ hk => hk.2) (.int .u64 ((rd_T99 l0 x8_1).f0))) (fun _ hk => hk.2) (.int .u64 ((rd_T99 l0 x8_1).f1))) (fun _ h_ => h_.1))) hb); have n1_ := Aside0.mk (blk_below (g := gb188) (o := .cells #[.int .u64 ((rd_T99 l0 x8_1).f0), .int .u64 ((rd_T99 l0 x8_1).f1)] 99 (0, 0)) (by refine blk_put (cs := #[.int .u64 ((rd_T99 l0 x8_1).f0), .int .u64 0]) ?_ 1 _ rfl; refine blk_put (cs := #[.int .u64 0, .int .u64 0]) ?_ 0 _ rfl; exact BK188.out) hb); have n2_ := Aside0.mk (below_step (by repeat (first | (with_reducible first | exact HB.out | refine below_set ?_ GE188.out))) hb); clear HO_3; clear BK188; clear HB; have HO_3 := n0_; have BK188 := n1_; have HB := n2_; clear n0_ n1_ n2_; (try clear hb); (try clear hb2); (try clear hk); (try clear hi)) | ((with_reducible refine gate_builtin (b := .append) (xs := #[.tmp 12, .tmp 15]) rfl ?_); at_builtin; refine Kd.R_append k49 (w0 := w) w.heap.size rfl (.tmp 12) (.tmp 15) 59 49 (.agg #[(.int .u64 0), (.int .u64 0)]) 16 rfl Tryd.underlying59 info49 rfl (by decide) (by omega) u3 x3_1 (⟨t189, t190⟩ : S49) [.int .u64 t189, .int .u64 t190] (fun _ => True) (fun _ => False) rfl rfl ?aP (fun _ hk => hk.elim) ?aF ?aO ?aB ?aS ?aL ?_; (case aP => exact k49_mkM _ _ _ (⟨t189, t190⟩ : S49)); (case aB => exact (by repeat (first | (with_reducible first | exact HB.out)))); (case aF => exact (fun _ _ => trivial)); (case aO => exact (by exact HO_3.out)); (case aS => exact (below_size (by repeat (first | (with_reducible first | exact HB.out))))); (case aL => have := LMc6.out; omega); intro v192 w10 ho hb hg hat; rw [← Ny191.out] at ho; have n0_ := Aside0.mk (blk_grown (g := gb188) (o := .cells #[.int .u64 ((rd_T99 l0 x8_1).f0), .int .u64 ((rd_T99 l0 x8_1).f1)] 99 (0, 0)) (by exact BK188.out) hg (Kd.R_ne HO_3.out BK188.out (by decide))); have n1_ := Aside0.mk (hb); have n2_ := Aside0.mk (ho); clear BK188; clear HB; clear HO_3; have BK188 := n0_; have HB := n1_; have HO193 := n2_; clear n0_ n1_ n2_; clear ho hb hg hat))
       go_roundg k1
       case measure => have := HK1.out; omega
       case rel => exact ⟨(y191), (wrap64 (x8_1 + 1)), (by first | rfl), H', ⟨by have := HK1.out; omega⟩, ⟨by exact HO193.out⟩, ⟨by repeat (first | (with_reducible first | exact HB.out))⟩⟩
      ·rw [if_neg c6] at H
       exact absurd H (by simp)
     ·rw [if_neg c4] at H
      exact absurd H (by simp)
    ·rw [if_neg c3] at H
     exact absurd H (by simp)
   ·rw [if_neg c2] at H
    have c2b0 : decide (x8_1 < (l0.length : Int)) = false := decide_eq_false c2
    clear c2
    obtain rfl := Option.some.inj H
    go_wp2
    go_ret
    exact ⟨_, by first | rfl, by exact HO_3.out, by repeat (first | (with_reducible first | exact HB.out))⟩
def impl_fromProof.f (k : Nat) (l0_0 : List (S99)) (a0_1 : Int) (a0_2 : Int) (a0_3 : Int) (a0_4 : Int) : Option ((List (S49)) × Int × Int × Int × Int) := (proof_Nodes_Ephem.f l0_0 a0_1 a0_2 a0_3 a0_4).bind fun bt196 => ((impl_fromNodes.f k l0_0).bind fun t201 => ((impl_fromNode.f bt196.1 bt196.2.1).bind fun bt204 => (some (t201, bt204.1, bt204.2, bt196.2.2.1, bt196.2.2.2))))
def impl_fromProof.T2 : Bool × List (List Nat × List Nat) := (true, [([], []), ([0], [0]), ([1], [1]), ([], []), ([3, 2], [3]), ([], []), ([], []), ([2, 4, 5, 6], [2, 4, 5, 6]), ([7, 4, 0, 1, 2, 3, 4, 5, 6, 7], [7])])
def impl_fromProof.B2 : List Nat := [0, 1, 3, 0, 15, 0, 0, 127, 255]
theorem impl_fromProof.tab2 : rtab .any (opsOf Tryd.f71 2) = impl_fromProof.T2 := by kernel_rfl
theorem impl_fromProof.bits2 : waitsOk impl_fromProof.T2.2 impl_fromProof.B2 = true := by kernel_rfl
theorem impl_fromProof.calls (k : Nat) (A0_0 : Option Addr) (c0_0 : Nat) (l0_0 : List (S99)) (a0_1 : Int) (a0_2 : Int) (a0_3 : Int) (a0_4 : Int) (r1 : List (S49)) (r2 : Int) (r3 : Int) (r4 : Int) (r5 : Int) (w : World) (hr0_0 : Kd.C k99 w A0_0 l0_0.length l0_0) (hc0_0 : l0_0.length ≤ c0_0) (h : impl_fromProof.f k l0_0 a0_1 a0_2 a0_3 a0_4 = some (r1, r2, r3, r4, r5)) :
 Calls Tryd.prog 71 #[.agg #[.slice A0_0 l0_0.length c0_0, .int .i64 a0_1, .int .i64 a0_2, .int .u64 a0_3, .int .u64 a0_4]] w fun e w' => ∃ v0_ : Value, e = .returned (.agg #[v0_, .int .u64 r2, .int .u64 r3, .int .i64 r4, .int .i64 r5]) ∧ Kd.R k49 49 w' w.heap.size (fun _ => True) v0_ r1 ∧ Below w.heap.size w w' := by
 have hu112 := Tryd.underlying112
 have hu61 := Tryd.underlying61
 have hu99 := Tryd.underlying99
 have HR0_0 := Aside0.mk hr0_0
 have HC0_0 := Aside0.mk hc0_0
 clear hr0_0 hc0_0
 have HB := Aside0.mk (Below.refl w.heap.size w)
 have H : ((proof_Nodes_Ephem.f l0_0 a0_1 a0_2 a0_3 a0_4).bind fun bt196 => ((impl_fromNodes.f k l0_0).bind fun t201 => ((impl_fromNode.f bt196.1 bt196.2.1).bind fun bt204 => (some (t201, bt204.1, bt204.2, bt196.2.2.1, bt196.2.2.2))))) = some (r1, r2, r3, r4, r5) := h
 clear h
 replace H := Option.bind_eq_some_iff.mp H
 obtain ⟨⟨t196, t197, t198, t199⟩, A20, H⟩ := H
 replace H : ((impl_fromNodes.f k l0_0).bind fun t201 => ((impl_fromNode.f t196 t197).bind fun bt204 => (some (t201, bt204.1, bt204.2, t198, t199)))) = some (r1, r2, r3, r4, r5) := H
 have A2 := Aside0.mk A20
 clear A20
 replace H := Option.bind_eq_some_iff.mp H
 obtain ⟨t201, A30, H⟩ := H
 replace H : ((impl_fromNode.f t196 t197).bind fun bt204 => (some (t201, bt204.1, bt204.2, t198, t199))) = some (r1, r2, r3, r4, r5) := H
 have A3 := Aside0.mk A30
 clear A30
 replace H := Option.bind_eq_some_iff.mp H
 obtain ⟨⟨t204, t205⟩, A40, H⟩ := H
 replace H : (some (t201, t204, t205, t198, t199)) = some (r1, r2, r3, r4, r5) := H
 have A4 := Aside0.mk A40
 clear A40
 simp only [Option.some.injEq, Prod.mk.injEq] at H
 obtain ⟨rfl, rfl, rfl, rfl, rfl⟩ := H
 go_enter Tryd.func71, Tryd.ntmps71
 try go_wp2_with (first | ((with_reducible refine gate_dst (N := 1) rfl ?_); refine box_event ?hg (N := 1) ?hd (cs := #[.slice A0_0 l0_0.length c0_0, .int .i64 a0_1, .int .i64 a0_2, .int .u64 a0_3, .int .u64 a0_4]) (t := 112) ?hr ?_; (case hd => rfl); (case hg => rfl); (case hr => first | (go_simp; done)); intro gb194 hg w5 hbox hb; have n0_ := Aside0.mk (below_step (by repeat (first | (with_reducible first | exact HB.out))) hb); have n1_ := Aside0.mk (hbox); have n2_ := Aside0.mk ((by rw [hg]; exact (below_size (by repeat (first | (with_reducible first | exact HB.out)))) : w.heap.size ≤ gb194)); have n3_ := Aside0.mk ((by rw [hg]; exact (below_size (by repeat (first | (with_reducible first | exact HB.out)))) : w.heap.size ≤ gb194)); clear HB; have HB := n0_; have BK194 := n1_; have GW194 := n2_; have GE194 := n3_; clear n0_ n1_ n2_ n3_; clear hb hbox hg) | ((with_reducible refine gate_dst (N := 2) rfl ?_); refine box_event ?hg (N := 2) ?hd (cs := #[.slice none 0 0, .int .u64 0, .int .u64 0, .int .i64 0, .int .i64 0]) (t := 61) ?hr ?_; (case hd => rfl); (case hg => rfl); (case hr => first | (go_simp; done)); intro gb195 hg w6 hbox hb; have n0_ := Aside0.mk (blk_below (g := gb194) (o := .cells #[.slice A0_0 l0_0.length c0_0, .int .i64 a0_1, .int .i64 a0_2, .int .u64 a0_3, .int .u64 a0_4] 112 (0, 0)) (by exact BK194.out) hb); have n1_ := Aside0.mk (below_step (by repeat (first | (with_reducible first | exact HB.out))) hb); have n2_ := Aside0.mk (hbox); have n3_ := Aside0.mk ((by rw [hg]; exact (below_size (by repeat (first | (with_reducible first | exact HB.out)))) : w.heap.size ≤ gb195)); have n4_ := Aside0.mk ((by rw [hg]; exact (below_size (by repeat (first | (with_reducible first | exact HB.out)))) : w.heap.size ≤ gb195)); have n5_ := Aside0.mk ((by rw [hg]; exact Nat.ne_of_lt (blk_lt (g := gb194) (o := .cells #[.slice A0_0 l0_0.length c0_0, .int .i64 a0_1, .int .i64 a0_2, .int .u64 a0_3, .int .u64 a0_4] 112 (0, 0)) (by exact BK194.out)) : gb194 ≠ gb195)); have n6_ := Aside0.mk ((by rw [hg]; exact Nat.ne_of_gt (blk_lt (g := gb194) (o := .cells #[.slice A0_0 l0_0.length c0_0, .int .i64 a0_1, .int .i64 a0_2, .int .u64 a0_3, .int .u64 a0_4] 112 (0, 0)) (by exact BK194.out)) : gb195 ≠ gb194)); clear BK194; clear HB; have BK194 := n0_; have HB := n1_; have BK195 := n2_; have GW195 := n3_; have GE195 := n4_; have NB194_195 := n5_; have NB195_194 := n6_; clear n0_ n1_ n2_ n3_ n4_ n5_ n6_; clear hb hbox hg; have hnb7 := NB194_195.out; have hnc7 := NB195_194.out; have hcz8_0 : w6.cell? ⟨gb194, 0, none⟩ = some (.slice A0_0 l0_0.length c0_0) := (blk_cell BK194.out 0).trans rfl; have hcz8_1 : w6.cell? ⟨gb194, 1, none⟩ = some (.int .i64 a0_1) := (blk_cell BK194.out 1).trans rfl; have hcz8_2 : w6.cell? ⟨gb194, 2, none⟩ = some (.int .i64 a0_2) := (blk_cell BK194.out 2).trans rfl; have hcz8_3 : w6.cell? ⟨gb194, 3, none⟩ = some (.int .u64 a0_3) := (blk_cell BK194.out 3).trans rfl; have hcz8_4 : w6.cell? ⟨gb194, 4, none⟩ = some (.int .u64 a0_4) := (blk_cell BK194.out 4).trans rfl; have hfz8_0 := blk_frozen BK194.out 0; have hfz8_1 := blk_frozen BK194.out 1; have hfz8_2 := blk_frozen BK194.out 2; have hfz8_3 := blk_frozen BK194.out 3; have hfz8_4 := blk_frozen BK194.out 4) | ((with_reducible refine gate_callee (f := 99) rfl ?_); refine goesL_ (some 8) rfl rfl Tryd.func99 (by kernel_rfl) rfl #[.agg #[.slice A0_0 l0_0.length c0_0, .int .i64 a0_1, .int .i64 a0_2, .int .u64 a0_3, .int .u64 a0_4]] rfl (by (try simp only [List.map_toArray, List.map_cons, List.map_nil]); first | rfl) ?_; (with_reducible refine (proof_Nodes_Ephem.calls _ _ l0_0 a0_1 a0_2 a0_3 a0_4 t196 t197 t198 t199 _ ?side1 ?side2 A2.out).mono ?_); (case side1 => repeat (first | exact (Kd.C_below HR0_0.out HB.out))); (case side2 => exact HC0_0.out); rintro e w9 ⟨rfl, hb⟩; refine ⟨_, rfl, ?_⟩; have n0_ := Aside0.mk (blk_below (g := gb194) (o := .cells #[.slice A0_0 l0_0.length c0_0, .int .i64 a0_1, .int .i64 a0_2, .int .u64 a0_3, .int .u64 a0_4] 112 (0, 0)) (by exact BK194.out) hb); have n1_ := Aside0.mk (blk_below (g := gb195) (o := .cells #[.slice none 0 0, .int .u64 0, .int .u64 0, .int .i64 0, .int .i64 0] 61 (0, 0)) (by exact BK195.out) hb); have n2_ := Aside0.mk (below_step (by repeat (first | (with_reducible first | exact HB.out))) hb); clear BK194; clear BK195; clear HB; have BK194 := n0_; have BK195 := n1_; have HB := n2_; clear n0_ n1_ n2_; (try clear hb); (try clear hb2); (try clear hk); (try clear hi)) | ((with_reducible refine gate_dst (N := 3) rfl ?_); refine box_event ?hg (N := 3) ?hd (cs := #[.int .u64 0, .int .u64 0]) (t := 99) ?hr ?_; (case hd => rfl); (case hg => rfl); (case hr => first | (go_simp; done)); intro gb200 hg w10 hbox hb; have n0_ := Aside0.mk (blk_below (g := gb194) (o := .cells #[.slice A0_0 l0_0.length c0_0, .int .i64 a0_1, .int .i64 a0_2, .int .u64 a0_3, .int .u64 a0_4] 112 (0, 0)) (by exact BK194.out) hb); have n1_ := Aside0.mk (blk_below (g := gb195) (o := .cells #[.slice none 0 0, .int .u64 0, .int .u64 0, .int .i64 0, .int .i64 0] 61 (0, 0)) (by exact BK195.out) hb); have n2_ := Aside0.mk (below_step (by repeat (first | (with_reducible first | exact HB.out))) hb); have n3_ := Aside0.mk (hbox); have n4_ := Aside0.mk ((by rw [hg]; exact (below_size (by repeat (first | (with_reducible first | exact HB.out)))) : w.heap.size ≤ gb200)); have n5_ := Aside0.mk ((by rw [hg]; exact (below_size (by repeat (first | (with_reducible first | exact HB.out)))) : w.heap.size ≤ gb200)); have n6_ := Aside0.mk ((by rw [hg]; exact Nat.ne_of_lt (blk_lt (g := gb194) (o := .cells #[.slice A0_0 l0_0.length c0_0, .int .i64 a0_1, .int .i64 a0_2, .int .u64 a0_3, .int .u64 a0_4] 112 (0, 0)) (by exact BK194.out)) : gb194 ≠ gb200)); have n7_ := Aside0.mk ((by rw [hg]; exact Nat.ne_of_gt (blk_lt (g := gb194) (o := .cells #[.slice A0_0 l0_0.length c0_0, .int .i64 a0_1, .int .i64 a0_2, .int .u64 a0_3, .int .u64 a0_4] 112 (0, 0)) (by exact BK194.out)) : gb200 ≠ gb194)); have n8_ := Aside0.mk ((by rw [hg]; exact Nat.ne_of_lt (blk_lt (g := gb195) (o := .cells #[.slice none 0 0, .int .u64 0, .int .u64 0, .int .i64 0, .int .i64 0] 61 (0, 0)) (by exact BK195.out)) : gb195 ≠ gb200)); have n9_ := Aside0.mk ((by rw [hg]; exact Nat.ne_of_gt (blk_lt (g := gb195) (o := .cells #[.slice none 0 0, .int .u64 0, .int .u64 0, .int .i64 0, .int .i64 0] 61 (0, 0)) (by exact BK195.out)) : gb200 ≠ gb195)); clear BK194; clear BK195; clear HB; have BK194 := n0_; have BK195 := n1_; have HB := n2_; have BK200 := n3_; have GW200 := n4_; have GE200 := n5_; have NB194_200 := n6_; have NB200_194 := n7_; have NB195_200 := n8_; have NB200_195 := n9_; clear n0_ n1_ n2_ n3_ n4_ n5_ n6_ n7_ n8_ n9_; clear hb hbox hg; have hnb11 := NB200_194.out; have hnc11 := NB194_200.out; have hnb12 := NB200_195.out; have hnc12 := NB195_200.out; have hcz13_0 : w10.cell? ⟨gb200, 0, none⟩ = some (.int .u64 0) := (blk_cell BK200.out 0).trans rfl; have hcz13_1 : w10.cell? ⟨gb200, 1, none⟩ = some (.int .u64 0) := (blk_cell BK200.out 1).trans rfl; have hfz13_0 := blk_frozen BK200.out 0; have hfz13_1 := blk_frozen BK200.out 1))
 have n0_ : Aside0 (((w10.setCell ⟨gb200, 0, none⟩ (.int .u64 t196)).setCell ⟨gb200, 1, none⟩ (.int .u64 t197)).heap[gb194]? = some (.cells #[.slice A0_0 l0_0.length c0_0, .int .i64 a0_1, .int .i64 a0_2, .int .u64 a0_3, .int .u64 a0_4] 112 (0, 0))) := ⟨by refine blk_far ?_ NB194_200.out _; refine blk_far ?_ NB194_200.out _; exact BK194.out⟩
 have n1_ : Aside0 (((w10.setCell ⟨gb200, 0, none⟩ (.int .u64 t196)).setCell ⟨gb200, 1, none⟩ (.int .u64 t197)).heap[gb195]? = some (.cells #[.slice none 0 0, .int .u64 0, .int .u64 0, .int .i64 0, .int .i64 0] 61 (0, 0))) := ⟨by refine blk_far ?_ NB195_200.out _; refine blk_far ?_ NB195_200.out _; exact BK195.out⟩
 have n2_ : Aside0 (((w10.setCell ⟨gb200, 0, none⟩ (.int .u64 t196)).setCell ⟨gb200, 1, none⟩ (.int .u64 t197)).heap[gb200]? = some (.cells #[.int .u64 t196, .int .u64 t197] 99 (0, 0))) := ⟨by refine blk_put (cs := #[.int .u64 t196, .int .u64 0]) ?_ 1 _ rfl; refine blk_put (cs := #[.int .u64 0, .int .u64 0]) ?_ 0 _ rfl; exact BK200.out⟩
 have n3_ : Aside0 (Below w.heap.size w ((w10.setCell ⟨gb200, 0, none⟩ (.int .u64 t196)).setCell ⟨gb200, 1, none⟩ (.int .u64 t197))) := ⟨by repeat (first | (with_reducible first | exact HB.out | refine below_set ?_ GE200.out))⟩
 (try clear BK194)
 (try clear BK195)
 (try clear BK200)
 (try clear HB)
 generalize ((w10.setCell ⟨gb200, 0, none⟩ (.int .u64 t196)).setCell ⟨gb200, 1, none⟩ (.int .u64 t197)) = w14 at n0_ n1_ n2_ n3_ ⊢
 have BK194 := n0_
 have BK195 := n1_
 have BK200 := n2_
 have HB := n3_
 clear n0_ n1_ n2_ n3_
 (try (rw [drewN_self w14]; generalize hq_ : World.drewN w14 _ = w14; have n0_ : Aside0 (w14.heap[gb194]? = some (.cells #[.slice A0_0 l0_0.length c0_0, .int .i64 a0_1, .int .i64 a0_2, .int .u64 a0_3, .int .u64 a0_4] 112 (0, 0))) := ⟨by rw [← hq_]; exact (by exact BK194.out)⟩; have n1_ : Aside0 (w14.heap[gb195]? = some (.cells #[.slice none 0 0, .int .u64 0, .int .u64 0, .int .i64 0, .int .i64 0] 61 (0, 0))) := ⟨by rw [← hq_]; exact (by exact BK195.out)⟩; have n2_ : Aside0 (w14.heap[gb200]? = some (.cells #[.int .u64 t196, .int .u64 t197] 99 (0, 0))) := ⟨by rw [← hq_]; exact (by exact BK200.out)⟩; have n3_ : Aside0 (Below w.heap.size w w14) := ⟨by rw [← hq_]; exact (by repeat (first | exact HB.out))⟩; clear BK194 BK195 BK200 HB hq_; have BK194 := n0_; have BK195 := n1_; have BK200 := n2_; have HB := n3_; clear n0_ n1_ n2_ n3_))
 have n0_ := Aside0.mk (blk_drew BK194.out)
 have n1_ := Aside0.mk (blk_drew BK195.out)
 have n2_ := Aside0.mk (blk_drew BK200.out)
 have n3_ := Aside0.mk (below_drew1 HB.out)
 clear BK194
 clear BK195
 clear BK200
 clear HB
 have BK194 := n0_
 have BK195 := n1_
 have BK200 := n2_
 have HB := n3_
 clear n0_ n1_ n2_ n3_
 refine start_ (n := 9) (S := fun w' => w'.cell? ⟨gb194, 0, none⟩ = some (.slice A0_0 l0_0.length c0_0) ∧ w'.cell? ⟨gb194, 1, none⟩ = some (.int .i64 a0_1) ∧ w'.cell? ⟨gb194, 2, none⟩ = some (.int .i64 a0_2) ∧ w'.cell? ⟨gb194, 3, none⟩ = some (.int .u64 a0_3) ∧ w'.cell? ⟨gb194, 4, none⟩ = some (.int .u64 a0_4) ∧ w'.cell? ⟨gb200, 0, none⟩ = some (.int .u64 t196) ∧ w'.cell? ⟨gb200, 1, none⟩ = some (.int .u64 t197)) (ds := []) #[false, false, false, false, false, false, false, false, false] (by kernel_rfl) rfl rfl ⟨(blk_cell BK194.out 0).trans rfl, (blk_cell BK194.out 1).trans rfl, (blk_cell BK194.out 2).trans rfl, (blk_cell BK194.out 3).trans rfl, (blk_cell BK194.out 4).trans rfl, (blk_cell BK200.out 0).trans rfl, (blk_cell BK200.out 1).trans rfl⟩ (fun hHeld => ?_); refine with_tabW impl_fromProof.tab2 impl_fromProof.bits2 (fun HT_ HW_ => ?_)
 generalize w14.drew = w15 at BK194 BK195 BK200 HB hHeld ⊢
 refine pure_ (i := 0) (N := some 12) (v := ?_) (a' := ?_) #[true, false, false, false, false, false, false, false, false] rfl rfl (any_of HT_.out (by kernel_rfl)) (fun _ _ _ h => h) (Or.inl ⟨by rfl, ?_⟩) ?_ ?_
 rotate_left
 ·intro w'
  go_simp
  with_reducible rfl
 rotate_left
 ·simp only [Act.put, List.setIfInBounds_toArray, List.set_cons_zero, List.set_cons_succ, i64_w, i32_w]
  rfl
 refine pure_ (i := 5) (N := some 17) (v := ?_) (a' := ?_) #[true, false, false, false, false, true, false, false, false] rfl rfl (any_of HT_.out (by kernel_rfl)) (fun _ _ _ h => h) (Or.inl ⟨by rfl, ?_⟩) ?_ ?_
 rotate_left
 ·intro w'
  go_simp
  with_reducible rfl
 rotate_left
 ·simp only [Act.put, List.setIfInBounds_toArray, List.set_cons_zero, List.set_cons_succ, i64_w, i32_w]
  rfl
 refine pure_ (i := 6) (N := some 18) (v := ?_) (a' := ?_) #[true, false, false, false, false, true, true, false, false] rfl rfl (any_of HT_.out (by kernel_rfl)) (fun _ _ _ h => h) (Or.inl ⟨by rfl, ?_⟩) ?_ ?_
 rotate_left
 ·intro w'
  go_simp
  with_reducible rfl
 rotate_left
 ·simp only [Act.put, List.setIfInBounds_toArray, List.set_cons_zero, List.set_cons_succ, i64_w, i32_w]
  rfl
 refine take_ (i := 1) (N := some 13) (v := ?_) (a' := ?_) #[true, true, false, false, false, true, true, false, false] rfl rfl (take_ofW HT_.out HW_.out (by kernel_rfl)) (fun _ _ _ h => h) (Or.inl ⟨by rfl, ?_⟩) hHeld ?_ ?_
 rotate_left
 ·rintro w' ⟨s0, s1, s2, s3, s4, s5, s6⟩
  go_simp
  with_reducible rfl
 rotate_left
 ·simp only [Act.put, List.setIfInBounds_toArray, List.set_cons_zero, List.set_cons_succ, i64_w, i32_w]
  rfl
 refine take_ (i := 3) (N := some 15) (v := ?_) (a' := ?_) #[true, true, false, true, false, true, true, false, false] rfl rfl (take_ofW HT_.out HW_.out (by kernel_rfl)) (fun _ _ _ h => h) (Or.inl ⟨by rfl, ?_⟩) hHeld ?_ ?_
 rotate_left
 ·rintro w' ⟨s0, s1, s2, s3, s4, s5, s6⟩
  go_simp
  with_reducible rfl
 rotate_left
 ·simp only [Act.put, List.setIfInBounds_toArray, List.set_cons_zero, List.set_cons_succ, i64_w, i32_w]
  rfl
 refine one_ (i := 2) (N := some 14) #[true, true, true, true, false, true, true, false, false] rfl rfl (one_of HT_.out (by kernel_rfl)) (by decide) (fun K hK => ?_)
 refine goes_ Tryd.func100 (by kernel_rfl) rfl #[.slice A0_0 l0_0.length c0_0] (by rfl) rfl rfl (by (try simp only [List.map_toArray, List.map_cons, List.map_nil]); first | rfl) ?_
 with_reducible refine (impl_fromNodes.calls k _ _ l0_0 t201 _ ?side1 ?side2 A3.out).mono ?_
 (case side1 => repeat (first | exact (Kd.C_below HR0_0.out HB.out)))
 (case side2 => exact HC0_0.out)
 rintro e w16 ⟨v202, rfl, ho0, hb⟩
 refine ⟨_, rfl, ?_⟩
 have n0_ := Aside0.mk (Kd.R_lower ho0 (below_size (by repeat (first | (with_reducible first | exact HB.out)))))
 have n1_ := Aside0.mk (blk_below (g := gb194) (o := .cells #[.slice A0_0 l0_0.length c0_0, .int .i64 a0_1, .int .i64 a0_2, .int .u64 a0_3, .int .u64 a0_4] 112 (0, 0)) (by exact BK194.out) hb)
 have n2_ := Aside0.mk (blk_below (g := gb195) (o := .cells #[.slice none 0 0, .int .u64 0, .int .u64 0, .int .i64 0, .int .i64 0] 61 (0, 0)) (by exact BK195.out) hb)
 have n3_ := Aside0.mk (blk_below (g := gb200) (o := .cells #[.int .u64 t196, .int .u64 t197] 99 (0, 0)) (by exact BK200.out) hb)
 have n4_ := Aside0.mk (below_step (by repeat (first | (with_reducible first | exact HB.out))) hb)
 clear BK194
 clear BK195
 clear BK200
 clear HB
 have HO203 := n0_
 have BK194 := n1_
 have BK195 := n2_
 have BK200 := n3_
 have HB := n4_
 clear n0_ n1_ n2_ n3_ n4_
 (try clear hb)
 (try clear hb2)
 (try clear hk)
 (try clear hi)
 (try clear ho0)
 refine hK.out _ _ ⟨(blk_cell BK194.out 0).trans rfl, (blk_cell BK194.out 1).trans rfl, (blk_cell BK194.out 2).trans rfl, (blk_cell BK194.out 3).trans rfl, (blk_cell BK194.out 4).trans rfl, (blk_cell BK200.out 0).trans rfl, (blk_cell BK200.out 1).trans rfl⟩ (fun hHeld => ?_)
 clear hK K
 refine norm_ (a' := ?_) ?_ ?_
 rotate_left
 ·show Act.put _ (some 14) _ = _
  simp only [Act.put, List.setIfInBounds_toArray, List.set_cons_zero, List.set_cons_succ, i64_w, i32_w]
  rfl
 refine one_ (i := 4) (N := some 16) #[true, true, true, true, true, true, true, false, false] rfl rfl (one_of HT_.out (by kernel_rfl)) (by decide) (fun K hK => ?_)
 refine goes_ Tryd.func54 (by kernel_rfl) rfl #[.agg #[.int .u64 t196, .int .u64 t197]] (by rfl) rfl rfl (by (try simp only [List.map_toArray, List.map_cons, List.map_nil]); first | rfl) ?_
 with_reducible refine (impl_fromNode.calls t196 t197 t204 t205 _ A4.out).mono ?_
 rintro e w17 ⟨rfl, hb⟩
 refine ⟨_, rfl, ?_⟩
 have n0_ := Aside0.mk (Kd.R_below (by exact HO203.out) hb)
 have n1_ := Aside0.mk (blk_below (g := gb194) (o := .cells #[.slice A0_0 l0_0.length c0_0, .int .i64 a0_1, .int .i64 a0_2, .int .u64 a0_3, .int .u64 a0_4] 112 (0, 0)) (by exact BK194.out) hb)
 have n2_ := Aside0.mk (blk_below (g := gb195) (o := .cells #[.slice none 0 0, .int .u64 0, .int .u64 0, .int .i64 0, .int .i64 0] 61 (0, 0)) (by exact BK195.out) hb)
 have n3_ := Aside0.mk (blk_below (g := gb200) (o := .cells #[.int .u64 t196, .int .u64 t197] 99 (0, 0)) (by exact BK200.out) hb)
 have n4_ := Aside0.mk (below_step (by repeat (first | (with_reducible first | exact HB.out))) hb)
 clear HO203
 clear BK194
 clear BK195
 clear BK200
 clear HB
 have HO203 := n0_
 have BK194 := n1_
 have BK195 := n2_
 have BK200 := n3_
 have HB := n4_
 clear n0_ n1_ n2_ n3_ n4_
 (try clear hb)
 (try clear hb2)
 (try clear hk)
 (try clear hi)
 obtain ⟨Ao18, co18, eo18⟩ := Kd.R_slice HO203.out
 (first | subst eo18)
 refine hK.out _ _ ⟨(blk_cell BK194.out 0).trans rfl, (blk_cell BK194.out 1).trans rfl, (blk_cell BK194.out 2).trans rfl, (blk_cell BK194.out 3).trans rfl, (blk_cell BK194.out 4).trans rfl, (blk_cell BK200.out 0).trans rfl, (blk_cell BK200.out 1).trans rfl⟩ (fun hHeld => ?_)
 clear hK K
 refine norm_ (a' := ?_) ?_ ?_
 rotate_left
 ·show Act.put _ (some 16) _ = _
  simp only [Act.put, List.setIfInBounds_toArray, List.set_cons_zero, List.set_cons_succ, i64_w, i32_w]
  rfl
 refine pure_ (i := 7) (N := some 19) (v := ?_) (a' := ?_) #[true, true, true, true, true, true, true, true, false] rfl rfl (any_of HT_.out (by kernel_rfl)) (fun _ _ _ h => h) (Or.inl ⟨by rfl, ?_⟩) ?_ ?_
 rotate_left
 ·intro w'
  go_simp
  with_reducible rfl
 rotate_left
 ·simp only [Act.put, List.setIfInBounds_toArray, List.set_cons_zero, List.set_cons_succ, i64_w, i32_w]
  rfl
 refine one_ (i := 8) (N := none) #[true, true, true, true, true, true, true, true, true] rfl rfl (one_of HT_.out (by kernel_rfl)) (by decide) (fun K hK => ?_)
 have hs19 : w17.cell? ⟨gb195, 0, none⟩ = some (.slice none 0 0) := (blk_cell BK195.out 0).trans rfl
 have hfs19 := blk_frozen BK195.out 0
 have hns19_0 := NB194_195.out
 have hns19_2 := NB200_195.out
 have hms19_0 := NB195_194.out
 have hms19_2 := NB195_200.out
 have hs20 : w17.cell? ⟨gb195, 1, none⟩ = some (.int .u64 0) := (blk_cell BK195.out 1).trans rfl
 have hfs20 := blk_frozen BK195.out 1
 have hns20_0 := NB194_195.out
 have hns20_2 := NB200_195.out
 have hms20_0 := NB195_194.out
 have hms20_2 := NB195_200.out
 have hs21 : w17.cell? ⟨gb195, 2, none⟩ = some (.int .u64 0) := (blk_cell BK195.out 2).trans rfl
 have hfs21 := blk_frozen BK195.out 2
 have hns21_0 := NB194_195.out
 have hns21_2 := NB200_195.out
 have hms21_0 := NB195_194.out
 have hms21_2 := NB195_200.out
 have hs22 : w17.cell? ⟨gb195, 3, none⟩ = some (.int .i64 0) := (blk_cell BK195.out 3).trans rfl
 have hfs22 := blk_frozen BK195.out 3
 have hns22_0 := NB194_195.out
 have hns22_2 := NB200_195.out
 have hms22_0 := NB195_194.out
 have hms22_2 := NB195_200.out
 have hs23 : w17.cell? ⟨gb195, 4, none⟩ = some (.int .i64 0) := (blk_cell BK195.out 4).trans rfl
 have hfs23 := blk_frozen BK195.out 4
 have hns23_0 := NB194_195.out
 have hns23_2 := NB200_195.out
 have hms23_0 := NB195_194.out
 have hms23_2 := NB195_200.out
 refine skip_ (w1 := ?_) (by rfl) rfl ?_ ?_
 rotate_left
 ·go_simp
  rfl
 refine hK.out _ _ ⟨((cell_far (p := ⟨gb195, _, none⟩) NB194_195.out _).trans (((cell_far (p := ⟨gb195, _, none⟩) NB194_195.out _).trans (((cell_far (p := ⟨gb195, _, none⟩) NB194_195.out _).trans (((cell_far (p := ⟨gb195, _, none⟩) NB194_195.out _).trans (((cell_far (p := ⟨gb195, _, none⟩) NB194_195.out _).trans (hHeld.1)))))))))), ((cell_far (p := ⟨gb195, _, none⟩) NB194_195.out _).trans (((cell_far (p := ⟨gb195, _, none⟩) NB194_195.out _).trans (((cell_far (p := ⟨gb195, _, none⟩) NB194_195.out _).trans (((cell_far (p := ⟨gb195, _, none⟩) NB194_195.out _).trans (((cell_far (p := ⟨gb195, _, none⟩) NB194_195.out _).trans (hHeld.2.1)))))))))), ((cell_far (p := ⟨gb195, _, none⟩) NB194_195.out _).trans (((cell_far (p := ⟨gb195, _, none⟩) NB194_195.out _).trans (((cell_far (p := ⟨gb195, _, none⟩) NB194_195.out _).trans (((cell_far (p := ⟨gb195, _, none⟩) NB194_195.out _).trans (((cell_far (p := ⟨gb195, _, none⟩) NB194_195.out _).trans (hHeld.2.2.1)))))))))), ((cell_far (p := ⟨gb195, _, none⟩) NB194_195.out _).trans (((cell_far (p := ⟨gb195, _, none⟩) NB194_195.out _).trans (((cell_far (p := ⟨gb195, _, none⟩) NB194_195.out _).trans (((cell_far (p := ⟨gb195, _, none⟩) NB194_195.out _).trans (((cell_far (p := ⟨gb195, _, none⟩) NB194_195.out _).trans (hHeld.2.2.2.1)))))))))), ((cell_far (p := ⟨gb195, _, none⟩) NB194_195.out _).trans (((cell_far (p := ⟨gb195, _, none⟩) NB194_195.out _).trans (((cell_far (p := ⟨gb195, _, none⟩) NB194_195.out _).trans (((cell_far (p := ⟨gb195, _, none⟩) NB194_195.out _).trans (((cell_far (p := ⟨gb195, _, none⟩) NB194_195.out _).trans (hHeld.2.2.2.2.1)))))))))), ((cell_far (p := ⟨gb195, _, none⟩) NB200_195.out _).trans (((cell_far (p := ⟨gb195, _, none⟩) NB200_195.out _).trans (((cell_far (p := ⟨gb195, _, none⟩) NB200_195.out _).trans (((cell_far (p := ⟨gb195, _, none⟩) NB200_195.out _).trans (((cell_far (p := ⟨gb195, _, none⟩) NB200_195.out _).trans (hHeld.2.2.2.2.2.1)))))))))), ((cell_far (p := ⟨gb195, _, none⟩) NB200_195.out _).trans (((cell_far (p := ⟨gb195, _, none⟩) NB200_195.out _).trans (((cell_far (p := ⟨gb195, _, none⟩) NB200_195.out _).trans (((cell_far (p := ⟨gb195, _, none⟩) NB200_195.out _).trans (((cell_far (p := ⟨gb195, _, none⟩) NB200_195.out _).trans (hHeld.2.2.2.2.2.2))))))))))⟩ (fun hHeld => ?_)
 clear hK K
 refine done_ (done_of HT_.out (by kernel_rfl)) ?_
 try go_wp2
 refine bodyPost_ret (results_cell_row rfl _ _ gb195 61 #[.slice Ao18 t201.length co18, .int .u64 t204, .int .u64 t205, .int .i64 t198, .int .i64 t199] (0, 0) _ rfl (by refine blk_put (cs := #[.slice Ao18 t201.length co18, .int .u64 t204, .int .u64 t205, .int .i64 t198, .int .i64 0]) ?_ 4 _ rfl; refine blk_put (cs := #[.slice Ao18 t201.length co18, .int .u64 t204, .int .u64 t205, .int .i64 0, .int .i64 0]) ?_ 3 _ rfl; refine blk_put (cs := #[.slice Ao18 t201.length co18, .int .u64 t204, .int .u64 0, .int .i64 0, .int .i64 0]) ?_ 2 _ rfl; refine blk_put (cs := #[.slice Ao18 t201.length co18, .int .u64 0, .int .u64 0, .int .i64 0, .int .i64 0]) ?_ 1 _ rfl; refine blk_put (cs := #[.slice none 0 0, .int .u64 0, .int .u64 0, .int .i64 0, .int .i64 0]) ?_ 0 _ rfl; exact BK195.out) Tryd.underlying61 rfl (by kernel_rfl)) rfl ?_
 exact ⟨_, by first | rfl, by exact Kd.R_mono (Kd.R_far (p := ⟨gb195, 4, none⟩) (Kd.R_far (p := ⟨gb195, 3, none⟩) (Kd.R_far (p := ⟨gb195, 2, none⟩) (Kd.R_far (p := ⟨gb195, 1, none⟩) (Kd.R_far (p := ⟨gb195, 0, none⟩) (Kd.R_types HO203.out BK195.out (by decide)) (fun _ hk => hk.2) (.slice Ao18 t201.length co18)) (fun _ hk => hk.2) (.int .u64 t204)) (fun _ hk => hk.2) (.int .u64 t205)) (fun _ hk => hk.2) (.int .i64 t198)) (fun _ hk => hk.2) (.int .i64 t199)) (fun _ hk => trivial), by repeat (first | (with_reducible first | exact HB.out | refine below_set ?_ GE195.out))⟩
def proof_innerProofSize.f (k : Nat) (a0 : Int) (a1 : Int) : Option (Int) := (bits_Len64.f k (Go.bits .xor .u64 a0 (IntKind.u64.wrap (a1 - 1)))).bind fun t206 => (some t206)
theorem proof_innerProofSize.calls (k : Nat) (a0 : Int) (a1 : Int) (r : Int) (w : World) (h : proof_innerProofSize.f k a0 a1 = some r) :
 Calls Tryd.prog 117 #[.int .u64 a0, .int .u64 a1] w fun e w' => e = .returned (.int .i64 r) ∧ Drawn0 w w' := by
 have H : ((bits_Len64.f k (Go.bits .xor .u64 a0 (IntKind.u64.wrap (a1 - 1)))).bind fun t206 => (some t206)) = some r := h
 clear h
 replace H := Option.bind_eq_some_iff.mp H
 obtain ⟨t206, A30, H⟩ := H
 replace H : (some t206) = some r := H
 have A3 := Aside0.mk A30
 clear A30
 obtain rfl := Option.some.inj H
 go_enter Tryd.func117, Tryd.ntmps117
 go_wp2_with (first | ((with_reducible refine gate_callee (f := 109) rfl ?_); refine goesL_ (some 9) rfl rfl Tryd.func109 (by kernel_rfl) rfl #[.int .u64 (Go.bits .xor .u64 a0 (IntKind.u64.wrap (a1 - 1)))] rfl (by (try simp only [List.map_toArray, List.map_cons, List.map_nil]); first | rfl) ?_; (with_reducible refine (bits_Len64.calls k (Go.bits .xor .u64 a0 (IntKind.u64.wrap (a1 - 1))) t206 _ A3.out).mono ?_); rintro e w' ⟨rfl, ⟨nd, rfl⟩⟩; refine ⟨_, rfl, ?_⟩))
 go_ret
 exact ⟨by first | rfl, by repeat (first | exact Drawn0.refl _ | apply Drawn0.step)⟩
end Go.Proofs.YtielnphmcaecdaaDoor.PAll
