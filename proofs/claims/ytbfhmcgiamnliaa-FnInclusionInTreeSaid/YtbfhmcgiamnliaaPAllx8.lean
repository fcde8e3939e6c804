-- Written by a program of this session (wip/tools)
import Derived.Test.YtbfhmcgiamnliaaPAllx0
import Derived.Test.YtbfhmcgiamnliaaPAllx4
import Derived.Test.YtbfhmcgiamnliaaPAllx6
import Derived.Test.YtbfhmcgiamnliaaPAllx7
import Derived.Test.YtbfhmcgiamnliaaExtChains
import Derived.Test.YtbfhmcgiamnliaaExtRoot
namespace Go.Proofs.Ytbfhmcgiamnliaa.PAll
open Go.RowKit Go.Proofs.YtbfhmcgiamnliaaW.PrintWords Go.Proofs.YtbfhmcgiamnliaaW.PrintLast Go.Proofs.YtbfhmcgiamnliaaW.PrintMore
attribute [local go_sem] max2_int min2_int max_two min_two max_three min_three max_four min_four   -- for this text's walks alone
set_option linter.unusedVariables false
set_option linter.unusedSimpArgs false

/-! ### laws_FnInclusionInTree: function 5 -/
mutual
def laws_FnInclusionInTree.j0 : Nat → Int → Int → Int → List Int → List (List Int) → Bool → Int → Int → Int → Int → Int → Int → Option (Bool)
  | 0, _, _, _, _, _, _, _, _, _, _, _, _ => none
  | k + 1, x1, x2, x3, x4, x5, x26, x240000, x240001, x240002, x240003, x240004, x240005 => if x26 = true then (some true) else (if x3 < 0 then (laws_FnInclusionInTree.j1 k x1 x2 x3 x4 x5 true x240000 x240001 x240002 x240003 x240004 x240005) else (if x3 > (x5.length : Int) then (laws_FnInclusionInTree.j1 k x1 x2 x3 x4 x5 true x240000 x240001 x240002 x240003 x240004 x240005) else ((laws_scalable.f x2 x3).bind fun t241 => (if t241 = true then (if 0 ≤ x3 then (if x1 ≥ (shl .u64 x2 x3) then (laws_FnInclusionInTree.j1 k x1 x2 x3 x4 x5 true x240000 x240001 x240002 x240003 x240004 x240005) else ((laws_logSmall.f k x5).bind fun t242 => (if t242 = true then (laws_FnInclusionInTree.j1 k x1 x2 x3 x4 x5 ((x4.length : Int) != x240001) x240000 x240001 x240002 x240003 x240004 x240005) else (laws_FnInclusionInTree.j1 k x1 x2 x3 x4 x5 true x240000 x240001 x240002 x240003 x240004 x240005)))) else (none)) else (laws_FnInclusionInTree.j1 k x1 x2 x3 x4 x5 true x240000 x240001 x240002 x240003 x240004 x240005)))))
def laws_FnInclusionInTree.j1 : Nat → Int → Int → Int → List Int → List (List Int) → Bool → Int → Int → Int → Int → Int → Int → Option (Bool)
  | 0, _, _, _, _, _, _, _, _, _, _, _, _ => none
  | k + 1, x1, x2, x3, x4, x5, x59, x240000, x240001, x240002, x240003, x240004, x240005 => if x59 = true then (some true) else (if 0 ≤ x3 then (if x3 ≤ (x5.length : Int) then ((impl_RootOfInclusion.f k x240000 x240001 x240002 x240003 x240004 x240005 (Go.bits .and .u64 x1 (IntKind.u64.wrap ((shl .u64 1 x3) - 1))) (shl .u64 1 x3) x4 (x5.take (x3 : Int).toNat)).bind fun bt247 => (if bt247.2 = true then (if (bt247.1.length : Int) = x240001 then ((spec_PathParts.f k (shr .u64 x1 x3) x2).bind fun t251 => (laws_FnInclusionInTree.j2 k x1 x2 x3 x4 x5 bt247.1 ((wrap64 ((x5.length : Int) - x3)) != (t251.length : Int)) x240000 x240001 x240002 x240003 x240004 x240005)) else (laws_FnInclusionInTree.j2 k x1 x2 x3 x4 x5 bt247.1 true x240000 x240001 x240002 x240003 x240004 x240005)) else (none))) else (none)) else (none))
def laws_FnInclusionInTree.j2 : Nat → Int → Int → Int → List Int → List (List Int) → List Int → Bool → Int → Int → Int → Int → Int → Int → Option (Bool)
  | 0, _, _, _, _, _, _, _, _, _, _, _, _, _ => none
  | k + 1, x1, x2, x3, x4, x5, x13, x95, x240000, x240001, x240002, x240003, x240004, x240005 => if x95 = true then (some true) else (if 0 ≤ x3 then (if x3 ≤ (x5.length : Int) then ((impl_RootOfInclusion.f k x240000 x240001 x240002 x240003 x240004 x240005 (shr .u64 x1 x3) x2 x13 (x5.drop (x3 : Int).toNat)).bind fun bt258 => ((impl_RootOfInclusion.f k x240000 x240001 x240002 x240003 x240004 x240005 x1 (shl .u64 x2 x3) x4 x5).bind fun bt262 => (if bt258.2 = true then (if bt262.2 = true then ((spec_SameText.f bt262.1 bt258.1).bind fun t266 => (if t266 = true then ((impl_ChainInner.f k x240000 x240001 x240002 x240003 x240004 x240005 x4 (x5.take (x3 : Int).toNat) x1).bind fun t271 => ((spec_SameText.f x13 t271).bind fun t274 => (some t274))) else (none))) else (none)) else (none)))) else (none)) else (none))
end
def laws_FnInclusionInTree.f (k : Nat) (a0_0 : Int) (a0_1 : Int) (a0_2 : Int) (a0_3 : Int) (a0_4 : Int) (a0_5 : Int) (a1 : Int) (a2 : Int) (a3 : Int) (l4 : List Int) (l5 : List (List Int)) : Option (Bool) := if (l4.length : Int) > 2147483647 then (laws_FnInclusionInTree.j0 k a1 a2 a3 l4 l5 true a0_0 a0_1 a0_2 a0_3 a0_4 a0_5) else ((laws_zzFits2.f k l5).bind fun t240 => (laws_FnInclusionInTree.j0 k a1 a2 a3 l4 l5 (!t240) a0_0 a0_1 a0_2 a0_3 a0_4 a0_5))
theorem laws_FnInclusionInTree.mono_l : ∀ k, (∀ y0 y1 y2 y3 y4 y5 y6 y7 y8 y9 y10 y11, LeO (laws_FnInclusionInTree.j0 k y0 y1 y2 y3 y4 y5 y6 y7 y8 y9 y10 y11) (laws_FnInclusionInTree.j0 (k + 1) y0 y1 y2 y3 y4 y5 y6 y7 y8 y9 y10 y11)) ∧ (∀ y0 y1 y2 y3 y4 y5 y6 y7 y8 y9 y10 y11, LeO (laws_FnInclusionInTree.j1 k y0 y1 y2 y3 y4 y5 y6 y7 y8 y9 y10 y11) (laws_FnInclusionInTree.j1 (k + 1) y0 y1 y2 y3 y4 y5 y6 y7 y8 y9 y10 y11)) ∧ (∀ y0 y1 y2 y3 y4 y5 y6 y7 y8 y9 y10 y11 y12, LeO (laws_FnInclusionInTree.j2 k y0 y1 y2 y3 y4 y5 y6 y7 y8 y9 y10 y11 y12) (laws_FnInclusionInTree.j2 (k + 1) y0 y1 y2 y3 y4 y5 y6 y7 y8 y9 y10 y11 y12))
  | 0 => ⟨fun _ _ _ _ _ _ _ _ _ _ _ _ r h => by simp [laws_FnInclusionInTree.j0] at h, fun _ _ _ _ _ _ _ _ _ _ _ _ r h => by simp [laws_FnInclusionInTree.j1] at h, fun _ _ _ _ _ _ _ _ _ _ _ _ _ r h => by simp [laws_FnInclusionInTree.j2] at h⟩
  | k + 1 => by
    obtain ⟨ih0, ih1, ih2⟩ := laws_FnInclusionInTree.mono_l k
    refine ⟨?_, ?_, ?_⟩
    · intro y0 y1 y2 y3 y4 y5 y6 y7 y8 y9 y10 y11
      unfold laws_FnInclusionInTree.j0
      repeat' first
      | (with_reducible exact ih0 _ _ _ _ _ _ _ _ _ _ _ _)
      | (with_reducible exact ih1 _ _ _ _ _ _ _ _ _ _ _ _)
      | (with_reducible exact ih2 _ _ _ _ _ _ _ _ _ _ _ _ _)
      | (with_reducible exact impl_ChainInner.mono _ _ _ _ _ _ _ _ _ _)
      | (with_reducible exact impl_RootOfInclusion.mono _ _ _ _ _ _ _ _ _ _ _)
      | (with_reducible exact laws_logSmall.mono _ _)
      | (with_reducible exact laws_zzFits2.mono _ _)
      | (with_reducible exact spec_PathParts.mono _ _ _)
      | (with_reducible exact LeO.refl _)
      | (with_reducible exact LeO.none _)
      | (with_reducible refine LeO.ite ?_ ?_)
      | (with_reducible refine LeO.bind ?_ (fun _ => ?_))
      | exact ih0 _ _ _ _ _ _ _ _ _ _ _ _
      | exact ih1 _ _ _ _ _ _ _ _ _ _ _ _
      | exact ih2 _ _ _ _ _ _ _ _ _ _ _ _ _
      | exact impl_ChainInner.mono _ _ _ _ _ _ _ _ _ _
      | exact impl_RootOfInclusion.mono _ _ _ _ _ _ _ _ _ _ _
      | exact laws_logSmall.mono _ _
      | exact laws_zzFits2.mono _ _
      | exact spec_PathParts.mono _ _ _
      | exact LeO.none _
      | refine LeO.ite ?_ ?_
      | refine LeO.bind ?_ (fun _ => ?_)
    · intro y0 y1 y2 y3 y4 y5 y6 y7 y8 y9 y10 y11
      unfold laws_FnInclusionInTree.j1
      repeat' first
      | (with_reducible exact ih0 _ _ _ _ _ _ _ _ _ _ _ _)
      | (with_reducible exact ih1 _ _ _ _ _ _ _ _ _ _ _ _)
      | (with_reducible exact ih2 _ _ _ _ _ _ _ _ _ _ _ _ _)
      | (with_reducible exact impl_ChainInner.mono _ _ _ _ _ _ _ _ _ _)
      | (with_reducible exact impl_RootOfInclusion.mono _ _ _ _ _ _ _ _ _ _ _)
      | (with_reducible exact laws_logSmall.mono _ _)
      | (with_reducible exact laws_zzFits2.mono _ _)
      | (with_reducible exact spec_PathParts.mono _ _ _)
      | (with_reducible exact LeO.refl _)
      | (with_reducible exact LeO.none _)
      | (with_reducible refine LeO.ite ?_ ?_)
      | (with_reducible refine LeO.bind ?_ (fun _ => ?_))
      | exact ih0 _ _ _ _ _ _ _ _ _ _ _ _
      | exact ih1 _ _ _ _ _ _ _ _ _ _ _ _
      | exact ih2 _ _ _ _ _ _ _ _ _ _ _ _ _
      | exact impl_ChainInner.mono _ _ _ _ _ _ _ _ _ _
      | exact impl_RootOfInclusion.mono _ _ _ _ _ _ _ _ _ _ _
      | exact laws_logSmall.mono _ _
      | exact laws_zzFits2.mono _ _
      | exact spec_PathParts.mono _ _ _
      | exact LeO.none _
      | refine LeO.ite ?_ ?_
      | refine LeO.bind ?_ (fun _ => ?_)
    · intro y0 y1 y2 y3 y4 y5 y6 y7 y8 y9 y10 y11 y12
      unfold laws_FnInclusionInTree.j2
      repeat' first
      | (with_reducible exact ih0 _ _ _ _ _ _ _ _ _ _ _ _)
      | (with_reducible exact ih1 _ _ _ _ _ _ _ _ _ _ _ _)
      | (with_reducible exact ih2 _ _ _ _ _ _ _ _ _ _ _ _ _)
      | (with_reducible exact impl_ChainInner.mono _ _ _ _ _ _ _ _ _ _)
      | (with_reducible exact impl_RootOfInclusion.mono _ _ _ _ _ _ _ _ _ _ _)
      | (with_reducible exact laws_logSmall.mono _ _)
      | (with_reducible exact laws_zzFits2.mono _ _)
      | (with_reducible exact spec_PathParts.mono _ _ _)
      | (with_reducible exact LeO.refl _)
      | (with_reducible exact LeO.none _)
      | (with_reducible refine LeO.ite ?_ ?_)
      | (with_reducible refine LeO.bind ?_ (fun _ => ?_))
      | exact ih0 _ _ _ _ _ _ _ _ _ _ _ _
      | exact ih1 _ _ _ _ _ _ _ _ _ _ _ _
      | exact ih2 _ _ _ _ _ _ _ _ _ _ _ _ _
      | exact impl_ChainInner.mono _ _ _ _ _ _ _ _ _ _
      | exact impl_RootOfInclusion.mono _ _ _ _ _ _ _ _ _ _ _
      | exact laws_logSmall.mono _ _
      | exact laws_zzFits2.mono _ _
      | exact spec_PathParts.mono _ _ _
      | exact LeO.none _
      | refine LeO.ite ?_ ?_
      | refine LeO.bind ?_ (fun _ => ?_)
theorem laws_FnInclusionInTree.mono : ∀ a0 a1 a2 a3 a4 a5 a6 a7 a8 a9 a10 k, LeO (laws_FnInclusionInTree.f k a0 a1 a2 a3 a4 a5 a6 a7 a8 a9 a10) (laws_FnInclusionInTree.f (k + 1) a0 a1 a2 a3 a4 a5 a6 a7 a8 a9 a10) := by
  intro a0 a1 a2 a3 a4 a5 a6 a7 a8 a9 a10 k
  obtain ⟨ih0, ih1, ih2⟩ := laws_FnInclusionInTree.mono_l k
  unfold laws_FnInclusionInTree.f
  repeat' first
      | (with_reducible exact ih0 _ _ _ _ _ _ _ _ _ _ _ _)
      | (with_reducible exact ih1 _ _ _ _ _ _ _ _ _ _ _ _)
      | (with_reducible exact ih2 _ _ _ _ _ _ _ _ _ _ _ _ _)
      | (with_reducible exact impl_ChainInner.mono _ _ _ _ _ _ _ _ _ _)
      | (with_reducible exact impl_RootOfInclusion.mono _ _ _ _ _ _ _ _ _ _ _)
      | (with_reducible exact laws_logSmall.mono _ _)
      | (with_reducible exact laws_zzFits2.mono _ _)
      | (with_reducible exact spec_PathParts.mono _ _ _)
      | (with_reducible exact LeO.refl _)
      | (with_reducible exact LeO.none _)
      | (with_reducible refine LeO.ite ?_ ?_)
      | (with_reducible refine LeO.bind ?_ (fun _ => ?_))
      | exact ih0 _ _ _ _ _ _ _ _ _ _ _ _
      | exact ih1 _ _ _ _ _ _ _ _ _ _ _ _
      | exact ih2 _ _ _ _ _ _ _ _ _ _ _ _ _
      | exact impl_ChainInner.mono _ _ _ _ _ _ _ _ _ _
      | exact impl_RootOfInclusion.mono _ _ _ _ _ _ _ _ _ _ _
      | exact laws_logSmall.mono _ _
      | exact laws_zzFits2.mono _ _
      | exact spec_PathParts.mono _ _ _
      | exact LeO.none _
      | refine LeO.ite ?_ ?_
      | refine LeO.bind ?_ (fun _ => ?_)
def laws_FnInclusionInTree.T5 : Bool × List (List Nat × List Nat) := (true, [([], []), ([], []), ([], []), ([2], [2]), ([3], [3]), ([1, 4], [1, 4]), ([], []), ([6], [6]), ([], []), ([], []), ([], []), ([9, 10], [9, 10]), ([0, 5, 7, 8, 11], [0, 5, 7, 8, 11]), ([12], [12]), ([13], [13]), ([13], [13]), ([14, 12, 0, 1, 2, 3, 4, 5, 6, 7, 8, 9, 10, 11, 12, 13, 14], [14]), ([15, 16, 0, 1, 2, 3, 4, 5, 6, 7, 8, 9, 10, 11, 12, 13, 14, 15, 16], [15])])
def laws_FnInclusionInTree.B5 : List Nat := [0, 0, 0, 4, 12, 30, 0, 64, 0, 0, 0, 1536, 4095, 8191, 16383, 16383, 32767, 131071]
theorem laws_FnInclusionInTree.tab5 : rtab .any (opsOf Try.f5 5) = laws_FnInclusionInTree.T5 := by kernel_rfl
theorem laws_FnInclusionInTree.bits5 : waitsOk laws_FnInclusionInTree.T5.2 laws_FnInclusionInTree.B5 = true := by kernel_rfl
def laws_FnInclusionInTree.T10 : Bool × List (List Nat × List Nat) := (true, [([], []), ([], []), ([], []), ([1, 2], [1, 2]), ([], []), ([], []), ([], []), ([], []), ([6, 7], [6, 7]), ([0, 3, 4, 5, 8], [0, 3, 4, 5, 8]), ([9], [9]), ([10], [10]), ([10], [10]), ([11, 9, 0, 1, 2, 3, 4, 5, 6, 7, 8, 9, 10, 11], [11]), ([12, 13, 0, 1, 2, 3, 4, 5, 6, 7, 8, 9, 10, 11, 12, 13], [12])])
def laws_FnInclusionInTree.B10 : List Nat := [0, 0, 0, 6, 0, 0, 0, 0, 192, 511, 1023, 2047, 2047, 4095, 16383]
theorem laws_FnInclusionInTree.tab10 : rtab .any (opsOf Try.f5 10) = laws_FnInclusionInTree.T10 := by kernel_rfl
theorem laws_FnInclusionInTree.bits10 : waitsOk laws_FnInclusionInTree.T10.2 laws_FnInclusionInTree.B10 = true := by kernel_rfl
def laws_FnInclusionInTree.T11 : Bool × List (List Nat × List Nat) := (true, [([], []), ([], []), ([], []), ([], []), ([2, 3], [2, 3]), ([], []), ([], []), ([0, 1, 4, 5, 6], [0, 1, 4, 5, 6]), ([7], [7]), ([8], [8]), ([8], [8]), ([9, 7, 0, 1, 2, 3, 4, 5, 6, 7, 8, 9], [9]), ([10, 11, 0, 1, 2, 3, 4, 5, 6, 7, 8, 9, 10, 11], [10])])
def laws_FnInclusionInTree.B11 : List Nat := [0, 0, 0, 0, 12, 0, 0, 127, 255, 511, 511, 1023, 4095]
theorem laws_FnInclusionInTree.tab11 : rtab .any (opsOf Try.f5 11) = laws_FnInclusionInTree.T11 := by kernel_rfl
theorem laws_FnInclusionInTree.bits11 : waitsOk laws_FnInclusionInTree.T11.2 laws_FnInclusionInTree.B11 = true := by kernel_rfl
def laws_FnInclusionInTree.T12 : Bool × List (List Nat × List Nat) := (true, [([], []), ([0], [0]), ([1], [1]), ([1, 2], [1, 2]), ([3, 1], [3]), ([4], [4]), ([4], [4]), ([5, 6, 4, 4], [4, 5, 6]), ([4, 7], [4, 7]), ([8, 7], [8]), ([9], [9]), ([9], [9]), ([9], [9]), ([9], [9]), ([9], [9]), ([13, 14, 9], [9, 13, 14]), ([9], [9]), ([11, 12, 15, 16, 9, 9], [9, 11, 12, 15, 16]), ([10, 17, 17, 9], [9, 10, 17]), ([9, 18], [9, 18]), ([19, 18, 0, 1, 2, 3, 4, 5, 6, 7, 8, 9, 10, 11, 12, 13, 14, 15, 16, 17, 18, 19], [19])])
def laws_FnInclusionInTree.B12 : List Nat := [0, 1, 3, 7, 15, 31, 31, 127, 255, 511, 1023, 1023, 1023, 1023, 1023, 25599, 1023, 130047, 262143, 524287, 1048575]
theorem laws_FnInclusionInTree.tab12 : rtab .any (opsOf Try.f5 12) = laws_FnInclusionInTree.T12 := by kernel_rfl
theorem laws_FnInclusionInTree.bits12 : waitsOk laws_FnInclusionInTree.T12.2 laws_FnInclusionInTree.B12 = true := by kernel_rfl
set_option maxHeartbeats 8000000 in
set_option maxRecDepth 100000 in
theorem laws_FnInclusionInTree.calls (k : Nat) (a0_0 : Int) (a0_1 : Int) (a0_2 : Int) (a0_3 : Int) (a0_4 : Int) (a0_5 : Int) (a1 : Int) (a2 : Int) (a3 : Int) (A4 : Option Addr) (c4 : Nat) (l4 : List Int) (A5 : Option Addr) (c5 : Nat) (l5 : List (List Int)) (r : Bool) (w : World) (hr4 : Kd.C (Kd.int .u8) w A4 l4.length l4) (hc4 : l4.length ≤ c4) (hr5 : Kd.C (Kd.slice 5 (Kd.int .u8)) w A5 l5.length l5) (hc5 : l5.length ≤ c5) (h : laws_FnInclusionInTree.f k a0_0 a0_1 a0_2 a0_3 a0_4 a0_5 a1 a2 a3 l4 l5 = some r) :
    Calls Try.prog 5 #[.agg #[.int .i64 a0_0, .int .i64 a0_1, .int .i64 a0_2, .int .u64 a0_3, .int .u64 a0_4, .int .u64 a0_5], .int .u64 a1, .int .u64 a2, .int .i64 a3, .slice A4 l4.length c4, .slice A5 l5.length c5] w fun e w' => e = .returned (.bool r) ∧ Below w.heap.size w w' := by
  have hu24 := Try.underlying24
  have HR4 := Aside0.mk hr4
  have HC4 := Aside0.mk hc4
  clear hr4 hc4
  have HR5 := Aside0.mk hr5
  have HC5 := Aside0.mk hc5
  clear hr5 hc5
  have HB := Aside0.mk (Below.refl w.heap.size w)
  have H : (if (l4.length : Int) > 2147483647 then (laws_FnInclusionInTree.j0 k a1 a2 a3 l4 l5 true a0_0 a0_1 a0_2 a0_3 a0_4 a0_5) else ((laws_zzFits2.f k l5).bind fun t240 => (laws_FnInclusionInTree.j0 k a1 a2 a3 l4 l5 (!t240) a0_0 a0_1 a0_2 a0_3 a0_4 a0_5))) = some r := h
  clear h
  have HC7 := Aside0.mk H
  clear H
  go_enter Try.func5, Try.ntmps5
  go_upto_region 1 with (first | ((with_reducible refine gate_dst (N := 6) rfl ?_); (try (refine gate_guard (by rfl) ?_; dsimp only)); refine box_event ?hg (N := 6) ?hd (cs := #[.int .i64 a0_0, .int .i64 a0_1, .int .i64 a0_2, .int .u64 a0_3, .int .u64 a0_4, .int .u64 a0_5]) (t := 24) ?hr ?_; (case hd => rfl); (case hg => rfl); (case hr => first | (go_simp; done) | (go_simp; rfl)); intro gb239 hg w8 hbox hb; have n0_ := Aside0.mk (below_step (by repeat (first | (with_reducible first | exact HB.out | apply below_alloc | apply pw_below_drewN | apply below_drew1) | exact HB.out)) hb); have n1_ := Aside0.mk (hbox); have n2_ := Aside0.mk ((by rw [hg]; exact (below_size (by repeat (first | (with_reducible first | exact HB.out | apply below_alloc | apply pw_below_drewN | apply below_drew1) | exact HB.out))) : w.heap.size ≤ gb239)); have n3_ := Aside0.mk ((by rw [hg]; exact (below_size (by repeat (first | (with_reducible first | exact HB.out | apply below_alloc | apply pw_below_drewN | apply below_drew1) | exact HB.out))) : w.heap.size ≤ gb239)); clear HB; have HB := n0_; have BK239 := n1_; have GW239 := n2_; have GE239 := n3_; clear n0_ n1_ n2_ n3_; clear hb hbox hg))
  (try simp only [Act.put, List.setIfInBounds_toArray, List.set_cons_zero, List.set_cons_succ])
  go_cut [26] (fun v26 wc => ∃ (kq : Nat) (x26_6 : Bool), v26 = .bool x26_6 ∧ Aside0 (laws_FnInclusionInTree.j0 kq a1 a2 a3 l4 l5 x26_6 a0_0 a0_1 a0_2 a0_3 a0_4 a0_5 = some r) ∧ Aside0 (kq ≤ k) ∧ Aside0 (wc.heap[gb239]? = some (.cells #[.int .i64 a0_0, .int .i64 a0_1, .int .i64 a0_2, .int .u64 a0_3, .int .u64 a0_4, .int .u64 a0_5] 24 (0, 0))) ∧ Aside0 (Below w.heap.size w wc))
  case first =>
    have H := HC7.out
    clear HC7
    by_cases c9 : (l4.length : Int) > 2147483647
    · rw [if_pos c9] at H
      have c9b0 : decide (2147483647 < (l4.length : Int)) = true := decide_eq_true c9
      have c9b1 : decide (2147483647 < l4.length) = true := decide_eq_true (by omega)
      clear c9
      (first | rw [c9b0] | (simp only [i64_w, i32_w]; rw [c9b0]) | skip)
      have H' := Aside0.mk H
      clear H
      go_wp2
      go_meet
      case rel => exact ⟨_, (true), (by first | rfl | (simp; done) | (simp [*]; done)), H', ⟨by first | omega | exact Nat.le_refl _⟩, ⟨by (with_reducible repeat (first | refine blk_drewN ?_ _ | refine blk_drew ?_ | refine blk_alloc ?_ _)); exact BK239.out⟩, ⟨by repeat (first | (with_reducible first | exact HB.out | apply below_alloc | apply pw_below_drewN | apply below_drew1 | refine below_set ?_ GE239.out) | exact HB.out)⟩⟩
    · rw [if_neg c9] at H
      have c9b0 : decide (2147483647 < (l4.length : Int)) = false := decide_eq_false c9
      have c9b1 : decide (2147483647 < l4.length) = false := decide_eq_false (by omega)
      clear c9
      (first | rw [c9b0] | (simp only [i64_w, i32_w]; rw [c9b0]) | skip)
      replace H := Option.bind_eq_some_iff.mp H
      obtain ⟨t240, A100, H⟩ := H
      replace H : (laws_FnInclusionInTree.j0 k a1 a2 a3 l4 l5 (!t240) a0_0 a0_1 a0_2 a0_3 a0_4 a0_5) = some r := H
      have A10 := Aside0.mk A100
      clear A100
      have H' := Aside0.mk H
      clear H
      go_wp2_with (first | (go_at_call 6; (with_reducible refine (laws_zzFits2.calls k _ _ l5 t240 _ ?side1 ?side2 A10.out).mono ?_); (case side1 => repeat (first | exact (Kd.C_below HR5.out HB.out) | (with_reducible refine Kd.C_alloc ?_ _) | (with_reducible refine Kd.C_drewN ?_ _) | (with_reducible refine Kd.C_drew ?_))); (case side2 => exact HC5.out); rintro e w' ⟨rfl, ⟨nd, rfl⟩⟩))
      go_meet
      case rel => exact ⟨_, (!t240), (by first | rfl | (simp; done) | (simp [*]; done)), H', ⟨by first | omega | exact Nat.le_refl _⟩, ⟨by (with_reducible repeat (first | refine blk_drewN ?_ _ | refine blk_drew ?_ | refine blk_alloc ?_ _)); exact BK239.out⟩, ⟨by repeat (first | (with_reducible first | exact HB.out | apply below_alloc | apply pw_below_drewN | apply below_drew1 | refine below_set ?_ GE239.out) | exact HB.out)⟩⟩
  case rest =>
    clear HC7
    try clear p2
    try clear c4
    try clear c5
    try clear c9
    try clear c9b0
    try clear c9b1
    obtain ⟨kq, x26_6, rfl, HA, HJ6, BK239, HB⟩ := hcut
    cases kq with
    | zero => exact absurd HA.out (by simp [laws_FnInclusionInTree.j0])
    | succ kj6 =>
      have H := HA.out
      clear HA
      simp only [laws_FnInclusionInTree.j0] at H
      by_cases c11 : x26_6 = true
      · subst c11
        have H1 : (some true) = some r := by rw [if_pos rfl] at H; exact H
        clear H
        have H := H1
        clear H1
        obtain rfl := Option.some.inj H
        go_wp2
        go_ret
        exact ⟨by first | rfl | (simp [errW_none, errW_some] <;> rfl) | (simp [*, errW_none, errW_some] <;> rfl), by repeat (first | (with_reducible first | exact HB.out | apply below_alloc | apply pw_below_drewN | apply below_drew1 | refine below_set ?_ GE239.out) | exact HB.out)⟩
      · replace c11 := Bool.eq_false_iff.mpr c11
        subst c11
        have H1 : (if a3 < 0 then (laws_FnInclusionInTree.j1 kj6 a1 a2 a3 l4 l5 true a0_0 a0_1 a0_2 a0_3 a0_4 a0_5) else (if a3 > (l5.length : Int) then (laws_FnInclusionInTree.j1 kj6 a1 a2 a3 l4 l5 true a0_0 a0_1 a0_2 a0_3 a0_4 a0_5) else ((laws_scalable.f a2 a3).bind fun t241 => (if t241 = true then (if 0 ≤ a3 then (if a1 ≥ (shl .u64 a2 a3) then (laws_FnInclusionInTree.j1 kj6 a1 a2 a3 l4 l5 true a0_0 a0_1 a0_2 a0_3 a0_4 a0_5) else ((laws_logSmall.f kj6 l5).bind fun t242 => (if t242 = true then (laws_FnInclusionInTree.j1 kj6 a1 a2 a3 l4 l5 ((l4.length : Int) != a0_1) a0_0 a0_1 a0_2 a0_3 a0_4 a0_5) else (laws_FnInclusionInTree.j1 kj6 a1 a2 a3 l4 l5 true a0_0 a0_1 a0_2 a0_3 a0_4 a0_5)))) else (none)) else (laws_FnInclusionInTree.j1 kj6 a1 a2 a3 l4 l5 true a0_0 a0_1 a0_2 a0_3 a0_4 a0_5))))) = some r := by rw [if_neg (show ¬ (false = true) by decide)] at H; exact H
        clear H
        have H := H1
        clear H1
        have HC12 := Aside0.mk H
        clear H
        go_upto_region 3 with (fail)
        go_cut [59] (fun v59 wc => ∃ (kq : Nat) (x59_11 : Bool), v59 = .bool x59_11 ∧ Aside0 (laws_FnInclusionInTree.j1 kq a1 a2 a3 l4 l5 x59_11 a0_0 a0_1 a0_2 a0_3 a0_4 a0_5 = some r) ∧ Aside0 (kq ≤ kj6) ∧ Aside0 (wc.heap[gb239]? = some (.cells #[.int .i64 a0_0, .int .i64 a0_1, .int .i64 a0_2, .int .u64 a0_3, .int .u64 a0_4, .int .u64 a0_5] 24 (0, 0))) ∧ Aside0 (Below w.heap.size w wc))
        case first =>
          have H := HC12.out
          clear HC12
          by_cases c13 : a3 < 0
          · rw [if_pos c13] at H
            have c13b0 : decide (a3 < 0) = true := decide_eq_true c13
            clear c13
            (first | rw [c13b0] | (simp only [i64_w, i32_w]; rw [c13b0]) | skip)
            have H' := Aside0.mk H
            clear H
            go_wp2
            go_meet
            case rel => exact ⟨_, (true), (by first | rfl | (simp; done) | (simp [*]; done)), H', ⟨by have := HJ6.out; first | omega | exact Nat.le_refl _⟩, ⟨by (with_reducible repeat (first | refine blk_drewN ?_ _ | refine blk_drew ?_ | refine blk_alloc ?_ _)); exact BK239.out⟩, ⟨by repeat (first | (with_reducible first | exact HB.out | apply below_alloc | apply pw_below_drewN | apply below_drew1 | refine below_set ?_ GE239.out) | exact HB.out)⟩⟩
          · rw [if_neg c13] at H
            have c13b0 : decide (a3 < 0) = false := decide_eq_false c13
            clear c13
            (first | rw [c13b0] | (simp only [i64_w, i32_w]; rw [c13b0]) | skip)
            by_cases c14 : a3 > (l5.length : Int)
            · rw [if_pos c14] at H
              have c14b0 : decide ((l5.length : Int) < a3) = true := decide_eq_true c14
              clear c14
              have H' := Aside0.mk H
              clear H
              go_wp2
              go_meet
              case rel => exact ⟨_, (true), (by first | rfl | (simp; done) | (simp [*]; done)), H', ⟨by have := HJ6.out; first | omega | exact Nat.le_refl _⟩, ⟨by (with_reducible repeat (first | refine blk_drewN ?_ _ | refine blk_drew ?_ | refine blk_alloc ?_ _)); exact BK239.out⟩, ⟨by repeat (first | (with_reducible first | exact HB.out | apply below_alloc | apply pw_below_drewN | apply below_drew1 | refine below_set ?_ GE239.out) | exact HB.out)⟩⟩
            · rw [if_neg c14] at H
              have c14b0 : decide ((l5.length : Int) < a3) = false := decide_eq_false c14
              clear c14
              replace H := Option.bind_eq_some_iff.mp H
              obtain ⟨t241, A150, H⟩ := H
              replace H : (if t241 = true then (if 0 ≤ a3 then (if a1 ≥ (shl .u64 a2 a3) then (laws_FnInclusionInTree.j1 kj6 a1 a2 a3 l4 l5 true a0_0 a0_1 a0_2 a0_3 a0_4 a0_5) else ((laws_logSmall.f kj6 l5).bind fun t242 => (if t242 = true then (laws_FnInclusionInTree.j1 kj6 a1 a2 a3 l4 l5 ((l4.length : Int) != a0_1) a0_0 a0_1 a0_2 a0_3 a0_4 a0_5) else (laws_FnInclusionInTree.j1 kj6 a1 a2 a3 l4 l5 true a0_0 a0_1 a0_2 a0_3 a0_4 a0_5)))) else (none)) else (laws_FnInclusionInTree.j1 kj6 a1 a2 a3 l4 l5 true a0_0 a0_1 a0_2 a0_3 a0_4 a0_5)) = some r := H
              have A15 := Aside0.mk A150
              clear A150
              by_cases c16 : t241 = true
              · subst c16
                have H1 : (if 0 ≤ a3 then (if a1 ≥ (shl .u64 a2 a3) then (laws_FnInclusionInTree.j1 kj6 a1 a2 a3 l4 l5 true a0_0 a0_1 a0_2 a0_3 a0_4 a0_5) else ((laws_logSmall.f kj6 l5).bind fun t242 => (if t242 = true then (laws_FnInclusionInTree.j1 kj6 a1 a2 a3 l4 l5 ((l4.length : Int) != a0_1) a0_0 a0_1 a0_2 a0_3 a0_4 a0_5) else (laws_FnInclusionInTree.j1 kj6 a1 a2 a3 l4 l5 true a0_0 a0_1 a0_2 a0_3 a0_4 a0_5)))) else (none)) = some r := by rw [if_pos rfl] at H; exact H
                clear H
                have H := H1
                clear H1
                by_cases c17 : 0 ≤ a3
                · rw [if_pos c17] at H
                  have c17b0 := eq_true c17
                  have c17b1 : decide (0 ≤ a3) = true := decide_eq_true c17
                  clear c17
                  obtain ⟨ji18, hji18⟩ : ∃ j_ : Int, (shl .u64 a2 a3) = j_ := ⟨_, rfl⟩
                  replace H : (if a1 ≥ (ji18) then (laws_FnInclusionInTree.j1 kj6 a1 a2 a3 l4 l5 true a0_0 a0_1 a0_2 a0_3 a0_4 a0_5) else ((laws_logSmall.f kj6 l5).bind fun t242 => (if t242 = true then (laws_FnInclusionInTree.j1 kj6 a1 a2 a3 l4 l5 ((l4.length : Int) != a0_1) a0_0 a0_1 a0_2 a0_3 a0_4 a0_5) else (laws_FnInclusionInTree.j1 kj6 a1 a2 a3 l4 l5 true a0_0 a0_1 a0_2 a0_3 a0_4 a0_5)))) = some r := by first | (rw [hji18] at H; exact H) | (simp only [hji18] at H ⊢; exact H)
                  (try rw [hji18] at A15)
                  have hji18_ : (IntKind.u64.wrap (a2 * 2 ^ min a3.toNat 64)) = ji18 := hji18
                  have hji18z : a3 ≤ 64 → (IntKind.u64.wrap (a2 * 2 ^ a3.toNat)) = ji18 := shl_small hji18
                  by_cases c19 : a1 ≥ (ji18)
                  · rw [if_pos c19] at H
                    have c19b0 : decide ((ji18) ≤ a1) = true := decide_eq_true c19
                    clear c19
                    have H' := Aside0.mk H
                    clear H
                    go_wp2_with (first | (go_at_call 16; (with_reducible refine (laws_scalable.calls a2 a3 true _ A15.out).mono ?_); rintro e w' ⟨rfl, ⟨nd, rfl⟩⟩))
                    go_meet
                    case rel => exact ⟨_, (true), (by first | rfl | (simp; done) | (simp [*]; done)), H', ⟨by have := HJ6.out; first | omega | exact Nat.le_refl _⟩, ⟨by (with_reducible repeat (first | refine blk_drewN ?_ _ | refine blk_drew ?_ | refine blk_alloc ?_ _)); exact BK239.out⟩, ⟨by repeat (first | (with_reducible first | exact HB.out | apply below_alloc | apply pw_below_drewN | apply below_drew1 | refine below_set ?_ GE239.out) | exact HB.out)⟩⟩
                  · rw [if_neg c19] at H
                    have c19b0 : decide ((ji18) ≤ a1) = false := decide_eq_false c19
                    clear c19
                    replace H := Option.bind_eq_some_iff.mp H
                    obtain ⟨t242, A200, H⟩ := H
                    replace H : (if t242 = true then (laws_FnInclusionInTree.j1 kj6 a1 a2 a3 l4 l5 ((l4.length : Int) != a0_1) a0_0 a0_1 a0_2 a0_3 a0_4 a0_5) else (laws_FnInclusionInTree.j1 kj6 a1 a2 a3 l4 l5 true a0_0 a0_1 a0_2 a0_3 a0_4 a0_5)) = some r := H
                    have A20 := Aside0.mk A200
                    clear A200
                    by_cases c21 : t242 = true
                    · subst c21
                      have H1 : (laws_FnInclusionInTree.j1 kj6 a1 a2 a3 l4 l5 ((l4.length : Int) != a0_1) a0_0 a0_1 a0_2 a0_3 a0_4 a0_5) = some r := by rw [if_pos rfl] at H; exact H
                      clear H
                      have H := H1
                      clear H1
                      have H' := Aside0.mk H
                      clear H
                      go_wp2_with (first | (go_at_call 16; (with_reducible refine (laws_scalable.calls a2 a3 true _ A15.out).mono ?_); rintro e w' ⟨rfl, ⟨nd, rfl⟩⟩) | (go_at_call 7; (with_reducible refine (laws_logSmall.calls kj6 _ _ l5 true _ ?side1 ?side2 A20.out).mono ?_); (case side1 => repeat (first | exact (Kd.C_below HR5.out (by repeat (first | (with_reducible first | exact HB.out | apply below_alloc | apply pw_below_drewN | apply below_drew1 | refine below_set ?_ GE239.out) | exact HB.out))) | (with_reducible refine Kd.C_alloc ?_ _) | (with_reducible refine Kd.C_drewN ?_ _) | (with_reducible refine Kd.C_drew ?_))); (case side2 => exact HC5.out); rintro e w' ⟨rfl, ⟨nd, rfl⟩⟩; have hcz22_0 : wc.cell? ⟨gb239, 0, none⟩ = some (.int .i64 a0_0) := (blk_cell BK239.out 0).trans rfl; have hcz22_1 : wc.cell? ⟨gb239, 1, none⟩ = some (.int .i64 a0_1) := (blk_cell BK239.out 1).trans rfl; have hcz22_2 : wc.cell? ⟨gb239, 2, none⟩ = some (.int .i64 a0_2) := (blk_cell BK239.out 2).trans rfl; have hcz22_3 : wc.cell? ⟨gb239, 3, none⟩ = some (.int .u64 a0_3) := (blk_cell BK239.out 3).trans rfl; have hcz22_4 : wc.cell? ⟨gb239, 4, none⟩ = some (.int .u64 a0_4) := (blk_cell BK239.out 4).trans rfl; have hcz22_5 : wc.cell? ⟨gb239, 5, none⟩ = some (.int .u64 a0_5) := (blk_cell BK239.out 5).trans rfl; have hfz22_0 := blk_frozen BK239.out 0; have hfz22_1 := blk_frozen BK239.out 1; have hfz22_2 := blk_frozen BK239.out 2; have hfz22_3 := blk_frozen BK239.out 3; have hfz22_4 := blk_frozen BK239.out 4; have hfz22_5 := blk_frozen BK239.out 5))
                      go_meet
                      case rel => exact ⟨_, (((l4.length : Int) != a0_1)), (by first | rfl | (simp; done) | (simp [*]; done)), H', ⟨by have := HJ6.out; first | omega | exact Nat.le_refl _⟩, ⟨by (with_reducible repeat (first | refine blk_drewN ?_ _ | refine blk_drew ?_ | refine blk_alloc ?_ _)); exact BK239.out⟩, ⟨by repeat (first | (with_reducible first | exact HB.out | apply below_alloc | apply pw_below_drewN | apply below_drew1 | refine below_set ?_ GE239.out) | exact HB.out)⟩⟩
                    · replace c21 := Bool.eq_false_iff.mpr c21
                      subst c21
                      have H1 : (laws_FnInclusionInTree.j1 kj6 a1 a2 a3 l4 l5 true a0_0 a0_1 a0_2 a0_3 a0_4 a0_5) = some r := by rw [if_neg (show ¬ (false = true) by decide)] at H; exact H
                      clear H
                      have H := H1
                      clear H1
                      have H' := Aside0.mk H
                      clear H
                      go_wp2_with (first | (go_at_call 16; (with_reducible refine (laws_scalable.calls a2 a3 true _ A15.out).mono ?_); rintro e w' ⟨rfl, ⟨nd, rfl⟩⟩) | (go_at_call 7; (with_reducible refine (laws_logSmall.calls kj6 _ _ l5 false _ ?side1 ?side2 A20.out).mono ?_); (case side1 => repeat (first | exact (Kd.C_below HR5.out (by repeat (first | (with_reducible first | exact HB.out | apply below_alloc | apply pw_below_drewN | apply below_drew1 | refine below_set ?_ GE239.out) | exact HB.out))) | (with_reducible refine Kd.C_alloc ?_ _) | (with_reducible refine Kd.C_drewN ?_ _) | (with_reducible refine Kd.C_drew ?_))); (case side2 => exact HC5.out); rintro e w' ⟨rfl, ⟨nd, rfl⟩⟩))
                      go_meet
                      case rel => exact ⟨_, (true), (by first | rfl | (simp; done) | (simp [*]; done)), H', ⟨by have := HJ6.out; first | omega | exact Nat.le_refl _⟩, ⟨by (with_reducible repeat (first | refine blk_drewN ?_ _ | refine blk_drew ?_ | refine blk_alloc ?_ _)); exact BK239.out⟩, ⟨by repeat (first | (with_reducible first | exact HB.out | apply below_alloc | apply pw_below_drewN | apply below_drew1 | refine below_set ?_ GE239.out) | exact HB.out)⟩⟩
                · rw [if_neg c17] at H
                  exact absurd H (by simp)
              · replace c16 := Bool.eq_false_iff.mpr c16
                subst c16
                have H1 : (laws_FnInclusionInTree.j1 kj6 a1 a2 a3 l4 l5 true a0_0 a0_1 a0_2 a0_3 a0_4 a0_5) = some r := by rw [if_neg (show ¬ (false = true) by decide)] at H; exact H
                clear H
                have H := H1
                clear H1
                have H' := Aside0.mk H
                clear H
                go_wp2_with (first | (go_at_call 16; (with_reducible refine (laws_scalable.calls a2 a3 false _ A15.out).mono ?_); rintro e w' ⟨rfl, ⟨nd, rfl⟩⟩))
                go_meet
                case rel => exact ⟨_, (true), (by first | rfl | (simp; done) | (simp [*]; done)), H', ⟨by have := HJ6.out; first | omega | exact Nat.le_refl _⟩, ⟨by (with_reducible repeat (first | refine blk_drewN ?_ _ | refine blk_drew ?_ | refine blk_alloc ?_ _)); exact BK239.out⟩, ⟨by repeat (first | (with_reducible first | exact HB.out | apply below_alloc | apply pw_below_drewN | apply below_drew1 | refine below_set ?_ GE239.out) | exact HB.out)⟩⟩
        case rest =>
          clear HC12
          try clear c1
          try clear c2
          try clear p2
          try clear c4
          try clear c5
          try clear c9
          try clear c9b0
          try clear c9b1
          try clear c11
          try clear c13
          try clear c13b0
          try clear c14
          try clear c14b0
          try clear c16
          try clear c17
          try clear c17b0
          try clear c17b1
          try clear c19
          try clear c19b0
          try clear c21
          try clear hcz22_0
          try clear hcz22_1
          try clear hcz22_2
          try clear hcz22_3
          try clear hcz22_4
          try clear hcz22_5
          try clear hfz22_0
          try clear hfz22_1
          try clear hfz22_2
          try clear hfz22_3
          try clear hfz22_4
          try clear hfz22_5
          try clear p2
          obtain ⟨kq, x59_11, rfl, HA, HJ11, BK239, HB⟩ := hcut
          cases kq with
          | zero => exact absurd HA.out (by simp [laws_FnInclusionInTree.j1])
          | succ kj11 =>
            have H := HA.out
            clear HA
            simp only [laws_FnInclusionInTree.j1] at H
            by_cases c23 : x59_11 = true
            · subst c23
              have H1 : (some true) = some r := by rw [if_pos rfl] at H; exact H
              clear H
              have H := H1
              clear H1
              obtain rfl := Option.some.inj H
              go_wp2
              go_ret
              exact ⟨by first | rfl | (simp [errW_none, errW_some] <;> rfl) | (simp [*, errW_none, errW_some] <;> rfl), by repeat (first | (with_reducible first | exact HB.out | apply below_alloc | apply pw_below_drewN | apply below_drew1 | refine below_set ?_ GE239.out) | exact HB.out)⟩
            · replace c23 := Bool.eq_false_iff.mpr c23
              subst c23
              have H1 : (if 0 ≤ a3 then (if a3 ≤ (l5.length : Int) then ((impl_RootOfInclusion.f kj11 a0_0 a0_1 a0_2 a0_3 a0_4 a0_5 (Go.bits .and .u64 a1 (IntKind.u64.wrap ((shl .u64 1 a3) - 1))) (shl .u64 1 a3) l4 (l5.take (a3 : Int).toNat)).bind fun bt247 => (if bt247.2 = true then (if (bt247.1.length : Int) = a0_1 then ((spec_PathParts.f kj11 (shr .u64 a1 a3) a2).bind fun t251 => (laws_FnInclusionInTree.j2 kj11 a1 a2 a3 l4 l5 bt247.1 ((wrap64 ((l5.length : Int) - a3)) != (t251.length : Int)) a0_0 a0_1 a0_2 a0_3 a0_4 a0_5)) else (laws_FnInclusionInTree.j2 kj11 a1 a2 a3 l4 l5 bt247.1 true a0_0 a0_1 a0_2 a0_3 a0_4 a0_5)) else (none))) else (none)) else (none)) = some r := by rw [if_neg (show ¬ (false = true) by decide)] at H; exact H
              clear H
              have H := H1
              clear H1
              by_cases c24 : 0 ≤ a3
              · rw [if_pos c24] at H
                have c24b0 := eq_true c24
                have c24b1 : decide (0 ≤ a3) = true := decide_eq_true c24
                clear c24
                obtain ⟨ji25, hji25⟩ : ∃ j_ : Int, (shl .u64 1 a3) = j_ := ⟨_, rfl⟩
                replace H : (if a3 ≤ (l5.length : Int) then ((impl_RootOfInclusion.f kj11 a0_0 a0_1 a0_2 a0_3 a0_4 a0_5 (Go.bits .and .u64 a1 (IntKind.u64.wrap ((ji25) - 1))) (ji25) l4 (l5.take (a3 : Int).toNat)).bind fun bt247 => (if bt247.2 = true then (if (bt247.1.length : Int) = a0_1 then ((spec_PathParts.f kj11 (shr .u64 a1 a3) a2).bind fun t251 => (laws_FnInclusionInTree.j2 kj11 a1 a2 a3 l4 l5 bt247.1 ((wrap64 ((l5.length : Int) - a3)) != (t251.length : Int)) a0_0 a0_1 a0_2 a0_3 a0_4 a0_5)) else (laws_FnInclusionInTree.j2 kj11 a1 a2 a3 l4 l5 bt247.1 true a0_0 a0_1 a0_2 a0_3 a0_4 a0_5)) else (none))) else (none)) = some r := by first | (rw [hji25] at H; exact H) | (simp only [hji25] at H ⊢; exact H)
                have hji25_ : (IntKind.u64.wrap (1 * 2 ^ min a3.toNat 64)) = ji25 := hji25
                have hji25z : a3 ≤ 64 → (IntKind.u64.wrap (1 * 2 ^ a3.toNat)) = ji25 := shl_small hji25
                have hji25u : (IntKind.u64.wrap (2 ^ min a3.toNat 64)) = ji25 := by have h_ := hji25_; rw [Int.one_mul] at h_; exact h_
                have hji25v : a3 ≤ 64 → (IntKind.u64.wrap (2 ^ a3.toNat)) = ji25 := fun hle_ => by have h_ := hji25z hle_; rw [Int.one_mul] at h_; exact h_
                have c26b0 := eq_true (of_decide_eq_true (by first | (with_reducible assumption) | assumption) : 0 ≤ a3)
                have c27b0 := eq_true (of_decide_eq_true (by first | (with_reducible assumption) | assumption) : 0 ≤ a3)
                by_cases c28 : a3 ≤ (l5.length : Int)
                · rw [if_pos c28] at H
                  have c28b0 := eq_true c28
                  have c28b1 : decide (a3 ≤ (l5.length : Int)) = true := decide_eq_true c28
                  clear c28
                  obtain ⟨y243, hy243⟩ : ∃ y_ : List (List Int), y_ = (l5.take (a3 : Int).toNat) := ⟨_, rfl⟩
                  replace H : ((impl_RootOfInclusion.f kj11 a0_0 a0_1 a0_2 a0_3 a0_4 a0_5 (Go.bits .and .u64 a1 (IntKind.u64.wrap ((ji25) - 1))) (ji25) l4 y243).bind fun bt247 => (if bt247.2 = true then (if (bt247.1.length : Int) = a0_1 then ((spec_PathParts.f kj11 (shr .u64 a1 a3) a2).bind fun t251 => (laws_FnInclusionInTree.j2 kj11 a1 a2 a3 l4 l5 bt247.1 ((wrap64 ((l5.length : Int) - a3)) != (t251.length : Int)) a0_0 a0_1 a0_2 a0_3 a0_4 a0_5)) else (laws_FnInclusionInTree.j2 kj11 a1 a2 a3 l4 l5 bt247.1 true a0_0 a0_1 a0_2 a0_3 a0_4 a0_5)) else (none))) = some r := by first | (rw [hy243]; with_reducible exact H) | (have H2_ := (Option.bind_some _ _).symm.trans H; rw [hy243]; with_reducible exact H2_) | (have H2_ := (Option.bind_some _ _).symm.trans H; with_reducible exact H2_) | with_reducible exact H | (rw [hy243]; exact H) | exact H
                  have Ny243 := Aside0.mk hy243
                  clear hy243
                  replace H := Option.bind_eq_some_iff.mp H
                  obtain ⟨⟨t247, t250⟩, A290, H⟩ := H
                  replace H : (if t250 = true then (if (t247.length : Int) = a0_1 then ((spec_PathParts.f kj11 (shr .u64 a1 a3) a2).bind fun t251 => (laws_FnInclusionInTree.j2 kj11 a1 a2 a3 l4 l5 t247 ((wrap64 ((l5.length : Int) - a3)) != (t251.length : Int)) a0_0 a0_1 a0_2 a0_3 a0_4 a0_5)) else (laws_FnInclusionInTree.j2 kj11 a1 a2 a3 l4 l5 t247 true a0_0 a0_1 a0_2 a0_3 a0_4 a0_5)) else (none)) = some r := H
                  have A29 := Aside0.mk A290
                  clear A290
                  by_cases c30 : t250 = true
                  · subst c30
                    have H1 : (if (t247.length : Int) = a0_1 then ((spec_PathParts.f kj11 (shr .u64 a1 a3) a2).bind fun t251 => (laws_FnInclusionInTree.j2 kj11 a1 a2 a3 l4 l5 t247 ((wrap64 ((l5.length : Int) - a3)) != (t251.length : Int)) a0_0 a0_1 a0_2 a0_3 a0_4 a0_5)) else (laws_FnInclusionInTree.j2 kj11 a1 a2 a3 l4 l5 t247 true a0_0 a0_1 a0_2 a0_3 a0_4 a0_5)) = some r := by rw [if_pos rfl] at H; exact H
                    clear H
                    have H := H1
                    clear H1
                    have HC31 := Aside0.mk H
                    clear H
                    try go_wp2
                    (try (rw [drewN_self wc]; generalize hq_ : World.drewN wc _ = wc; have n0_ : Aside0 (wc.heap[gb239]? = some (.cells #[.int .i64 a0_0, .int .i64 a0_1, .int .i64 a0_2, .int .u64 a0_3, .int .u64 a0_4, .int .u64 a0_5] 24 (0, 0))) := ⟨by rw [← hq_]; exact (by (with_reducible repeat (first | refine blk_drewN ?_ _ | refine blk_drew ?_ | refine blk_alloc ?_ _)); exact BK239.out)⟩; have n1_ : Aside0 (Below w.heap.size w wc) := ⟨by rw [← hq_]; exact (by repeat (first | (with_reducible first | exact HB.out | apply below_alloc | apply pw_below_drewN | apply below_drew1 | refine below_set ?_ GE239.out) | exact HB.out))⟩; clear BK239 HB hq_; have BK239 := n0_; have HB := n1_; clear n0_ n1_))
                    have n0_ := Aside0.mk (blk_drew BK239.out)
                    have n1_ := Aside0.mk (below_drew1 HB.out)
                    clear BK239
                    clear HB
                    have BK239 := n0_
                    have HB := n1_
                    clear n0_ n1_
                    have q33 : (a3 : Int) ≤ ((l5.length : Int) : Int) := of_decide_eq_true (by first | (with_reducible assumption) | assumption)
                    obtain ⟨i033, hi033, _, hsz33, _⟩ := info_parts info25
                    have hroom33 : l5.length ≤ c5 := HC5.out
                    have hC33 : Kd.C (Kd.slice 5 (Kd.int .u8)) _ A5 l5.length l5 := HR5.out
                    have hcut33 := cut_to (P := Try.prog) 26 25 .i64 Try.underlying26 hi033 A5 l5.length c5 a3 (of_decide_eq_true (by first | (with_reducible assumption) | assumption)) q33 hroom33
                    have hr33 := Kd.C_take (m := (a3 : Int).toNat) hC33 (by omega)
                    have hy33 : y243.length = (a3 : Int).toNat := (by rw [Ny243.out, List.length_take]; omega)
                    rw [← Ny243.out] at hr33
                    rw [← hy33] at hcut33
                    have HR246 := Aside0.mk hr33
                    have HC246 := Aside0.mk (show y243.length ≤ c5 from by omega)
                    clear hr33 hC33 hroom33 hi033 hsz33
                    have KY33 := Aside0.mk hy33
                    clear hy33
                    replace q33 := eq_true q33
                    refine start_ (n := 18) (S := fun w' => w'.cell? ⟨gb239, 0, none⟩ = some (.int .i64 a0_0) ∧ w'.cell? ⟨gb239, 1, none⟩ = some (.int .i64 a0_1) ∧ w'.cell? ⟨gb239, 2, none⟩ = some (.int .i64 a0_2) ∧ w'.cell? ⟨gb239, 3, none⟩ = some (.int .u64 a0_3) ∧ w'.cell? ⟨gb239, 4, none⟩ = some (.int .u64 a0_4) ∧ w'.cell? ⟨gb239, 5, none⟩ = some (.int .u64 a0_5)) (ds := []) #[false, false, false, false, false, false, false, false, false, false, false, false, false, false, false, false, false, false] (by kernel_rfl) rfl rfl ⟨(blk_cell BK239.out 0).trans rfl, (blk_cell BK239.out 1).trans rfl, (blk_cell BK239.out 2).trans rfl, (blk_cell BK239.out 3).trans rfl, (blk_cell BK239.out 4).trans rfl, (blk_cell BK239.out 5).trans rfl⟩ (fun hHeld => ?_); refine with_tabW laws_FnInclusionInTree.tab5 laws_FnInclusionInTree.bits5 (fun HT_ HW_ => ?_)
                    generalize wc.drew = w32 at BK239 HB HR246 hHeld ⊢
                    refine pure_ (i := 1) (N := some 62) (v := ?_) (a' := ?_) #[false, true, false, false, false, false, false, false, false, false, false, false, false, false, false, false, false, false] rfl rfl (any_of HT_.out (by kernel_rfl)) (fun _ _ _ h => h) (Or.inl ⟨by rfl, ?_⟩) ?_ ?_
                    rotate_left
                    · intro w'
                      go_simp
                      with_reducible rfl
                    rotate_left
                    · simp only [Act.put, List.setIfInBounds_toArray, List.set_cons_zero, List.set_cons_succ, i64_w, i32_w]
                      rfl
                    refine pure_ (i := 2) (N := some 63) (v := ?_) (a' := ?_) #[false, true, true, false, false, false, false, false, false, false, false, false, false, false, false, false, false, false] rfl rfl (any_of HT_.out (by kernel_rfl)) (fun _ _ _ h => h) (Or.inl ⟨by rfl, ?_⟩) ?_ ?_
                    rotate_left
                    · intro w'
                      go_simp
                      with_reducible rfl
                    rotate_left
                    · simp only [Act.put, List.setIfInBounds_toArray, List.set_cons_zero, List.set_cons_succ, i64_w, i32_w]
                      rfl
                    refine pure_ (i := 3) (N := some 64) (v := ?_) (a' := ?_) #[false, true, true, true, false, false, false, false, false, false, false, false, false, false, false, false, false, false] rfl rfl (any_of HT_.out (by kernel_rfl)) (fun _ _ _ h => h) (Or.inl ⟨by rfl, ?_⟩) ?_ ?_
                    rotate_left
                    · intro w'
                      go_simp
                      with_reducible rfl
                    rotate_left
                    · simp only [Act.put, List.setIfInBounds_toArray, List.set_cons_zero, List.set_cons_succ, i64_w, i32_w]
                      rfl
                    refine pure_ (i := 4) (N := some 65) (v := ?_) (a' := ?_) #[false, true, true, true, true, false, false, false, false, false, false, false, false, false, false, false, false, false] rfl rfl (any_of HT_.out (by kernel_rfl)) (fun _ _ _ h => h) (Or.inl ⟨by rfl, ?_⟩) ?_ ?_
                    rotate_left
                    · intro w'
                      go_simp
                      with_reducible rfl
                    rotate_left
                    · simp only [Act.put, List.setIfInBounds_toArray, List.set_cons_zero, List.set_cons_succ, i64_w, i32_w]
                      rfl
                    refine pure_ (i := 5) (N := some 66) (v := ?_) (a' := ?_) #[false, true, true, true, true, true, false, false, false, false, false, false, false, false, false, false, false, false] rfl rfl (any_of HT_.out (by kernel_rfl)) (fun _ _ _ h => h) (Or.inl ⟨by rfl, ?_⟩) ?_ ?_
                    rotate_left
                    · intro w'
                      go_simp
                      with_reducible rfl
                    rotate_left
                    · simp only [Act.put, List.setIfInBounds_toArray, List.set_cons_zero, List.set_cons_succ, i64_w, i32_w]
                      rfl
                    refine pure_ (i := 6) (N := some 67) (v := ?_) (a' := ?_) #[false, true, true, true, true, true, true, false, false, false, false, false, false, false, false, false, false, false] rfl rfl (any_of HT_.out (by kernel_rfl)) (fun _ _ _ h => h) (Or.inl ⟨by rfl, ?_⟩) ?_ ?_
                    rotate_left
                    · intro w'
                      go_simp
                      with_reducible rfl
                    rotate_left
                    · simp only [Act.put, List.setIfInBounds_toArray, List.set_cons_zero, List.set_cons_succ, i64_w, i32_w]
                      rfl
                    refine pure_ (i := 7) (N := some 68) (v := ?_) (a' := ?_) #[false, true, true, true, true, true, true, true, false, false, false, false, false, false, false, false, false, false] rfl rfl (any_of HT_.out (by kernel_rfl)) (fun _ _ _ h => h) (Or.inl ⟨by rfl, ?_⟩) ?_ ?_
                    rotate_left
                    · intro w'
                      go_simp
                      with_reducible rfl
                    rotate_left
                    · simp only [Act.put, List.setIfInBounds_toArray, List.set_cons_zero, List.set_cons_succ, i64_w, i32_w]
                      rfl
                    refine pure_ (i := 8) (N := some 69) (v := ?_) (a' := ?_) #[false, true, true, true, true, true, true, true, true, false, false, false, false, false, false, false, false, false] rfl rfl (any_of HT_.out (by kernel_rfl)) (fun _ _ _ h => h) (Or.inl ⟨by rfl, ?_⟩) ?_ ?_
                    rotate_left
                    · intro w'
                      go_simp
                      with_reducible rfl
                    rotate_left
                    · simp only [Act.put, List.setIfInBounds_toArray, List.set_cons_zero, List.set_cons_succ, i64_w, i32_w]
                      rfl
                    refine pure_ (i := 9) (N := some 70) (v := ?_) (a' := ?_) #[false, true, true, true, true, true, true, true, true, true, false, false, false, false, false, false, false, false] rfl rfl (any_of HT_.out (by kernel_rfl)) (fun _ _ _ h => h) (Or.inl ⟨by rfl, ?_⟩) ?_ ?_
                    rotate_left
                    · intro w'
                      go_simp
                      with_reducible rfl
                    rotate_left
                    · simp only [Act.put, List.setIfInBounds_toArray, List.set_cons_zero, List.set_cons_succ, i64_w, i32_w]
                      rfl
                    refine pure_ (i := 10) (N := some 71) (v := ?_) (a' := ?_) #[false, true, true, true, true, true, true, true, true, true, true, false, false, false, false, false, false, false] rfl rfl (any_of HT_.out (by kernel_rfl)) (fun _ _ _ h => h) (Or.inl ⟨by rfl, ?_⟩) ?_ ?_
                    rotate_left
                    · intro w'
                      go_simp
                      with_reducible rfl
                    rotate_left
                    · simp only [Act.put, List.setIfInBounds_toArray, List.set_cons_zero, List.set_cons_succ, i64_w, i32_w]
                      rfl
                    refine pure_ (i := 11) (N := some 72) (v := ?_) (a' := ?_) #[false, true, true, true, true, true, true, true, true, true, true, true, false, false, false, false, false, false] rfl rfl (any_of HT_.out (by kernel_rfl)) (fun _ _ _ h => h) (Or.inl ⟨by rfl, ?_⟩) ?_ ?_
                    rotate_left
                    · intro w'
                      go_simp
                      with_reducible rfl
                    rotate_left
                    · simp only [Act.put, List.setIfInBounds_toArray, List.set_cons_zero, List.set_cons_succ, i64_w, i32_w]
                      rfl
                    refine take_ (i := 0) (N := some 61) (v := ?_) (a' := ?_) #[true, true, true, true, true, true, true, true, true, true, true, true, false, false, false, false, false, false] rfl rfl (take_ofW HT_.out HW_.out (by kernel_rfl)) (fun _ _ _ h => h) (Or.inl ⟨by rfl, ?_⟩) hHeld ?_ ?_
                    rotate_left
                    · rintro w' ⟨s0, s1, s2, s3, s4, s5⟩
                      go_simp
                      with_reducible rfl
                    rotate_left
                    · simp only [Act.put, List.setIfInBounds_toArray, List.set_cons_zero, List.set_cons_succ, i64_w, i32_w]
                      rfl
                    refine one_ (i := 12) (N := some 73) #[true, true, true, true, true, true, true, true, true, true, true, true, true, false, false, false, false, false] rfl rfl (one_of HT_.out (by kernel_rfl)) (by decide) (fun K hK => ?_)
                    refine goes_ Try.func17 (by kernel_rfl) rfl #[.agg #[.int .i64 a0_0, .int .i64 a0_1, .int .i64 a0_2, .int .u64 a0_3, .int .u64 a0_4, .int .u64 a0_5], .int .u64 (Go.bits .and .u64 a1 (IntKind.u64.wrap ((ji25) - 1))), .int .u64 ji25, .slice A4 l4.length c4, .slice A5 y243.length c5] (by rfl) rfl rfl (by (try simp only [List.map_toArray, List.map_cons, List.map_nil]); first | done | (simp only [hji25]; rfl) | rfl | (simp only [List.length_drop, List.length_take]; rfl)) ?_
                    with_reducible refine (impl_RootOfInclusion.calls kj11 a0_0 a0_1 a0_2 a0_3 a0_4 a0_5 (Go.bits .and .u64 a1 (IntKind.u64.wrap ((ji25) - 1))) ji25 _ _ l4 _ _ y243 t247 true _ ?side1 ?side2 ?side3 ?side4 A29.out).mono ?_
                    (case side1 => repeat (first | exact (Kd.C_below HR4.out HB.out) | (with_reducible refine Kd.C_alloc ?_ _) | (with_reducible refine Kd.C_drewN ?_ _) | (with_reducible refine Kd.C_drew ?_)))
                    (case side2 => exact HC4.out)
                    (case side3 => repeat (first | exact (Kd.C_below HR246.out HB.out) | (with_reducible refine Kd.C_alloc ?_ _) | (with_reducible refine Kd.C_drewN ?_ _) | (with_reducible refine Kd.C_drew ?_)))
                    (case side4 => exact HC246.out)
                    rintro e w34 ⟨v248, rfl, ho0, hb⟩
                    refine ⟨_, rfl, ?_⟩
                    have n0_ := Aside0.mk (Kd.R_lower ho0 (below_size (by repeat (first | (with_reducible first | exact HB.out | apply below_alloc | apply pw_below_drewN | apply below_drew1 | refine below_set ?_ GE239.out) | exact HB.out))))
                    have n1_ := Aside0.mk (blk_below (g := gb239) (o := .cells #[.int .i64 a0_0, .int .i64 a0_1, .int .i64 a0_2, .int .u64 a0_3, .int .u64 a0_4, .int .u64 a0_5] 24 (0, 0)) (by (with_reducible repeat (first | refine blk_drewN ?_ _ | refine blk_drew ?_ | refine blk_alloc ?_ _)); exact BK239.out) hb)
                    have n2_ := Aside0.mk (below_step (by repeat (first | (with_reducible first | exact HB.out | apply below_alloc | apply pw_below_drewN | apply below_drew1 | refine below_set ?_ GE239.out) | exact HB.out)) hb)
                    clear BK239
                    clear HB
                    have HO249 := n0_
                    have BK239 := n1_
                    have HB := n2_
                    clear n0_ n1_ n2_
                    (try clear hb)
                    (try clear hb2)
                    (try clear hk)
                    (try clear hi)
                    (try clear ho0)
                    refine hK.out _ _ ⟨(blk_cell BK239.out 0).trans rfl, (blk_cell BK239.out 1).trans rfl, (blk_cell BK239.out 2).trans rfl, (blk_cell BK239.out 3).trans rfl, (blk_cell BK239.out 4).trans rfl, (blk_cell BK239.out 5).trans rfl⟩ (fun hHeld => ?_)
                    clear hK K
                    refine norm_ (a' := ?_) ?_ ?_
                    rotate_left
                    · show Act.put _ (some 73) _ = _
                      simp only [Act.put, List.setIfInBounds_toArray, List.set_cons_zero, List.set_cons_succ, i64_w, i32_w]
                      rfl
                    refine pure_ (i := 13) (N := some 60) (v := ?_) (a' := ?_) #[true, true, true, true, true, true, true, true, true, true, true, true, true, true, false, false, false, false] rfl rfl (any_of HT_.out (by kernel_rfl)) (fun _ _ _ h => h) (Or.inl ⟨by rfl, ?_⟩) ?_ ?_
                    rotate_left
                    · intro w'
                      go_simp
                      with_reducible rfl
                    rotate_left
                    · simp only [Act.put, List.setIfInBounds_toArray, List.set_cons_zero, List.set_cons_succ, i64_w, i32_w]
                      rfl
                    refine pure_ (i := 14) (N := some 74) (v := ?_) (a' := ?_) #[true, true, true, true, true, true, true, true, true, true, true, true, true, true, true, false, false, false] rfl rfl (any_of HT_.out (by kernel_rfl)) (fun _ _ _ h => h) (Or.inl ⟨by rfl, ?_⟩) ?_ ?_
                    rotate_left
                    · intro w'
                      go_simp
                      with_reducible rfl
                    rotate_left
                    · simp only [Act.put, List.setIfInBounds_toArray, List.set_cons_zero, List.set_cons_succ, i64_w, i32_w]
                      rfl
                    refine pure_ (i := 15) (N := some 75) (v := ?_) (a' := ?_) #[true, true, true, true, true, true, true, true, true, true, true, true, true, true, true, true, false, false] rfl rfl (any_of HT_.out (by kernel_rfl)) (fun _ _ _ h => h) (Or.inl ⟨by rfl, ?_⟩) ?_ ?_
                    rotate_left
                    · intro w'
                      go_simp
                      with_reducible rfl
                    rotate_left
                    · simp only [Act.put, List.setIfInBounds_toArray, List.set_cons_zero, List.set_cons_succ, i64_w, i32_w]
                      rfl
                    refine pure_ (i := 16) (N := some 13) (v := ?_) (a' := ?_) #[true, true, true, true, true, true, true, true, true, true, true, true, true, true, true, true, true, false] rfl rfl (any_of HT_.out (by kernel_rfl)) (fun _ _ _ h => h) (Or.inl ⟨by rfl, ?_⟩) ?_ ?_
                    rotate_left
                    · intro w'
                      go_simp
                      with_reducible rfl
                    rotate_left
                    · simp only [Act.put, List.setIfInBounds_toArray, List.set_cons_zero, List.set_cons_succ, i64_w, i32_w]
                      rfl
                    refine pure_ (i := 17) (N := some 14) (v := ?_) (a' := ?_) #[true, true, true, true, true, true, true, true, true, true, true, true, true, true, true, true, true, true] rfl rfl (any_of HT_.out (by kernel_rfl)) (fun _ _ _ h => h) (Or.inl ⟨by rfl, ?_⟩) ?_ ?_
                    rotate_left
                    · intro w'
                      go_simp
                      with_reducible rfl
                    rotate_left
                    · simp only [Act.put, List.setIfInBounds_toArray, List.set_cons_zero, List.set_cons_succ, i64_w, i32_w]
                      rfl
                    refine done_ (done_of HT_.out (by kernel_rfl)) ?_
                    go_upto_region 8 with (fail)
                    go_cut [95] (fun v95 wc => ∃ (kq : Nat) (x95_30 : Bool), v95 = .bool x95_30 ∧ Aside0 (laws_FnInclusionInTree.j2 kq a1 a2 a3 l4 l5 t247 x95_30 a0_0 a0_1 a0_2 a0_3 a0_4 a0_5 = some r) ∧ Aside0 (kq ≤ kj11) ∧ Aside0 (Kd.R (Kd.int .u8) 5 wc w.heap.size (fun _ => True) v248 t247) ∧ Aside0 (wc.heap[gb239]? = some (.cells #[.int .i64 a0_0, .int .i64 a0_1, .int .i64 a0_2, .int .u64 a0_3, .int .u64 a0_4, .int .u64 a0_5] 24 (0, 0))) ∧ Aside0 (Below w.heap.size w wc))
                    case first =>
                      have H := HC31.out
                      clear HC31
                      by_cases c35 : (t247.length : Int) = a0_1
                      · rw [if_pos c35] at H
                        have c35b0 : ((t247.length : Int) == a0_1) = true := beq_iff_eq.mpr c35
                        have c35b1 : ((t247.length : Int) != a0_1) = false := bne_eq_false_iff_eq.mpr c35
                        clear c35
                        (first | rw [c35b0] | (simp only [i64_w, i32_w]; rw [c35b0]) | skip)
                        have c36b0 := eq_true (of_decide_eq_true (by first | (with_reducible assumption) | assumption) : 0 ≤ a3)
                        obtain ⟨ji37, hji37⟩ : ∃ j_ : Int, (shr .u64 a1 a3) = j_ := ⟨_, rfl⟩
                        replace H : ((spec_PathParts.f kj11 (ji37) a2).bind fun t251 => (laws_FnInclusionInTree.j2 kj11 a1 a2 a3 l4 l5 t247 ((wrap64 ((l5.length : Int) - a3)) != (t251.length : Int)) a0_0 a0_1 a0_2 a0_3 a0_4 a0_5)) = some r := by first | (rw [hji37] at H; exact H) | (simp only [hji37] at H ⊢; exact H)
                        have hji37_ : (a1 / 2 ^ min a3.toNat 64) = ji37 := hji37
                        have hji37z : a3 ≤ 64 → (a1 / 2 ^ a3.toNat) = ji37 := shr_small hji37
                        replace H := Option.bind_eq_some_iff.mp H
                        obtain ⟨t251, A380, H⟩ := H
                        replace H : (laws_FnInclusionInTree.j2 kj11 a1 a2 a3 l4 l5 t247 ((wrap64 ((l5.length : Int) - a3)) != (t251.length : Int)) a0_0 a0_1 a0_2 a0_3 a0_4 a0_5) = some r := H
                        have A38 := Aside0.mk A380
                        clear A380
                        have H' := Aside0.mk H
                        clear H
                        obtain ⟨Ao39, co39, eo39⟩ := Kd.R_slice HO249.out
                        subst eo39
                        have hcz40_0 : w34.cell? ⟨gb239, 0, none⟩ = some (.int .i64 a0_0) := (blk_cell BK239.out 0).trans rfl
                        have hcz40_1 : w34.cell? ⟨gb239, 1, none⟩ = some (.int .i64 a0_1) := (blk_cell BK239.out 1).trans rfl
                        have hcz40_2 : w34.cell? ⟨gb239, 2, none⟩ = some (.int .i64 a0_2) := (blk_cell BK239.out 2).trans rfl
                        have hcz40_3 : w34.cell? ⟨gb239, 3, none⟩ = some (.int .u64 a0_3) := (blk_cell BK239.out 3).trans rfl
                        have hcz40_4 : w34.cell? ⟨gb239, 4, none⟩ = some (.int .u64 a0_4) := (blk_cell BK239.out 4).trans rfl
                        have hcz40_5 : w34.cell? ⟨gb239, 5, none⟩ = some (.int .u64 a0_5) := (blk_cell BK239.out 5).trans rfl
                        have hfz40_0 := blk_frozen BK239.out 0
                        have hfz40_1 := blk_frozen BK239.out 1
                        have hfz40_2 := blk_frozen BK239.out 2
                        have hfz40_3 := blk_frozen BK239.out 3
                        have hfz40_4 := blk_frozen BK239.out 4
                        have hfz40_5 := blk_frozen BK239.out 5
                        go_wp2_with (first | (go_at_call 18; (with_reducible refine (spec_PathParts.calls kj11 ji37 a2 t251 _ A38.out).mono ?_); rintro e w41 ⟨v252, rfl, ho0, hb⟩; have n0_ := Aside0.mk (Kd.R_below (by (with_reducible repeat (first | apply Kd.R_alloc | apply Kd.R_drewN | apply Kd.R_drew)); exact HO249.out) hb); have n1_ := Aside0.mk (Kd.R_lower ho0 (below_size (by repeat (first | (with_reducible first | exact HB.out | apply below_alloc | apply pw_below_drewN | apply below_drew1 | refine below_set ?_ GE239.out) | exact HB.out)))); have n2_ := Aside0.mk (blk_below (g := gb239) (o := .cells #[.int .i64 a0_0, .int .i64 a0_1, .int .i64 a0_2, .int .u64 a0_3, .int .u64 a0_4, .int .u64 a0_5] 24 (0, 0)) (by (with_reducible repeat (first | refine blk_drewN ?_ _ | refine blk_drew ?_ | refine blk_alloc ?_ _)); exact BK239.out) hb); have n3_ := Aside0.mk (below_step (by repeat (first | (with_reducible first | exact HB.out | apply below_alloc | apply pw_below_drewN | apply below_drew1 | refine below_set ?_ GE239.out) | exact HB.out)) hb); clear HO249; clear BK239; clear HB; have HO249 := n0_; have HO253 := n1_; have BK239 := n2_; have HB := n3_; clear n0_ n1_ n2_ n3_; (try clear hb); (try clear hb2); (try clear hk); (try clear hi); (try clear ho0); obtain ⟨Ao42, co42, eo42⟩ := Kd.R_slice HO253.out; subst eo42))
                        go_meet
                        case rel => exact ⟨_, (((wrap64 ((l5.length : Int) - a3)) != (t251.length : Int))), (by first | rfl | (simp; done) | (simp [*]; done)), H', ⟨by have := HJ6.out; have := HJ11.out; first | omega | exact Nat.le_refl _⟩, ⟨by (with_reducible repeat (first | apply Kd.R_alloc | apply Kd.R_drewN | apply Kd.R_drew)); exact HO249.out⟩, ⟨by (with_reducible repeat (first | refine blk_drewN ?_ _ | refine blk_drew ?_ | refine blk_alloc ?_ _)); exact BK239.out⟩, ⟨by repeat (first | (with_reducible first | exact HB.out | apply below_alloc | apply pw_below_drewN | apply below_drew1 | refine below_set ?_ GE239.out) | exact HB.out)⟩⟩
                      · rw [if_neg c35] at H
                        have c35b0 : ((t247.length : Int) == a0_1) = false := beq_eq_false_iff_ne.mpr c35
                        have c35b1 : ((t247.length : Int) != a0_1) = true := bne_iff_ne.mpr c35
                        (first | rw [c35b0] | (simp only [i64_w, i32_w]; rw [c35b0]) | skip)
                        have H' := Aside0.mk H
                        clear H
                        obtain ⟨Ao43, co43, eo43⟩ := Kd.R_slice HO249.out
                        subst eo43
                        have hcz44_0 : w34.cell? ⟨gb239, 0, none⟩ = some (.int .i64 a0_0) := (blk_cell BK239.out 0).trans rfl
                        have hcz44_1 : w34.cell? ⟨gb239, 1, none⟩ = some (.int .i64 a0_1) := (blk_cell BK239.out 1).trans rfl
                        have hcz44_2 : w34.cell? ⟨gb239, 2, none⟩ = some (.int .i64 a0_2) := (blk_cell BK239.out 2).trans rfl
                        have hcz44_3 : w34.cell? ⟨gb239, 3, none⟩ = some (.int .u64 a0_3) := (blk_cell BK239.out 3).trans rfl
                        have hcz44_4 : w34.cell? ⟨gb239, 4, none⟩ = some (.int .u64 a0_4) := (blk_cell BK239.out 4).trans rfl
                        have hcz44_5 : w34.cell? ⟨gb239, 5, none⟩ = some (.int .u64 a0_5) := (blk_cell BK239.out 5).trans rfl
                        have hfz44_0 := blk_frozen BK239.out 0
                        have hfz44_1 := blk_frozen BK239.out 1
                        have hfz44_2 := blk_frozen BK239.out 2
                        have hfz44_3 := blk_frozen BK239.out 3
                        have hfz44_4 := blk_frozen BK239.out 4
                        have hfz44_5 := blk_frozen BK239.out 5
                        go_wp2
                        go_meet
                        case rel => exact ⟨_, (true), (by first | rfl | (simp; done) | (simp [*]; done)), H', ⟨by have := HJ6.out; have := HJ11.out; first | omega | exact Nat.le_refl _⟩, ⟨by (with_reducible repeat (first | apply Kd.R_alloc | apply Kd.R_drewN | apply Kd.R_drew)); exact HO249.out⟩, ⟨by (with_reducible repeat (first | refine blk_drewN ?_ _ | refine blk_drew ?_ | refine blk_alloc ?_ _)); exact BK239.out⟩, ⟨by repeat (first | (with_reducible first | exact HB.out | apply below_alloc | apply pw_below_drewN | apply below_drew1 | refine below_set ?_ GE239.out) | exact HB.out)⟩⟩
                    case rest =>
                      clear HC31
                      try clear c1
                      try clear c2
                      try clear p2
                      try clear c3
                      try clear q3
                      try clear c4
                      try clear c5
                      try clear p6
                      try clear c9
                      try clear c9b0
                      try clear c9b1
                      try clear c11
                      try clear c13
                      try clear c13b0
                      try clear c14
                      try clear c14b0
                      try clear c16
                      try clear c17
                      try clear c17b0
                      try clear c17b1
                      try clear c19
                      try clear c19b0
                      try clear c21
                      try clear c23
                      try clear c24
                      try clear c24b0
                      try clear c24b1
                      try clear c26
                      try clear c26b0
                      try clear c27
                      try clear c27b0
                      try clear c28
                      try clear c28b0
                      try clear c28b1
                      try clear c30
                      try clear q33
                      try clear c35
                      try clear c35b0
                      try clear c35b1
                      try clear c36
                      try clear c36b0
                      try clear hcz22_0
                      try clear hcz22_1
                      try clear hcz22_2
                      try clear hcz22_3
                      try clear hcz22_4
                      try clear hcz22_5
                      try clear hcz40_0
                      try clear hcz40_1
                      try clear hcz40_2
                      try clear hcz40_3
                      try clear hcz40_4
                      try clear hcz40_5
                      try clear hcz44_0
                      try clear hcz44_1
                      try clear hcz44_2
                      try clear hcz44_3
                      try clear hcz44_4
                      try clear hcz44_5
                      try clear hfz22_0
                      try clear hfz22_1
                      try clear hfz22_2
                      try clear hfz22_3
                      try clear hfz22_4
                      try clear hfz22_5
                      try clear hfz40_0
                      try clear hfz40_1
                      try clear hfz40_2
                      try clear hfz40_3
                      try clear hfz40_4
                      try clear hfz40_5
                      try clear hfz44_0
                      try clear hfz44_1
                      try clear hfz44_2
                      try clear hfz44_3
                      try clear hfz44_4
                      try clear hfz44_5
                      try clear p2
                      try clear q33
                      obtain ⟨kq, x95_30, rfl, HA, HJ30, HO_13, BK239, HB⟩ := hcut
                      cases kq with
                      | zero => exact absurd HA.out (by simp [laws_FnInclusionInTree.j2])
                      | succ kj30 =>
                        have H := HA.out
                        clear HA
                        simp only [laws_FnInclusionInTree.j2] at H
                        by_cases c45 : x95_30 = true
                        · subst c45
                          have H1 : (some true) = some r := by rw [if_pos rfl] at H; exact H
                          clear H
                          have H := H1
                          clear H1
                          obtain rfl := Option.some.inj H
                          go_wp2
                          go_ret
                          exact ⟨by first | rfl | (simp [errW_none, errW_some] <;> rfl) | (simp only [← hji25]; first | rfl | (simp [errW_none, errW_some] <;> rfl)) | (simp [*, errW_none, errW_some] <;> rfl), by repeat (first | (with_reducible first | exact HB.out | apply below_alloc | apply pw_below_drewN | apply below_drew1 | refine below_set ?_ GE239.out) | exact HB.out)⟩
                        · replace c45 := Bool.eq_false_iff.mpr c45
                          subst c45
                          have H1 : (if 0 ≤ a3 then (if a3 ≤ (l5.length : Int) then ((impl_RootOfInclusion.f kj30 a0_0 a0_1 a0_2 a0_3 a0_4 a0_5 (shr .u64 a1 a3) a2 t247 (l5.drop (a3 : Int).toNat)).bind fun bt258 => ((impl_RootOfInclusion.f kj30 a0_0 a0_1 a0_2 a0_3 a0_4 a0_5 a1 (shl .u64 a2 a3) l4 l5).bind fun bt262 => (if bt258.2 = true then (if bt262.2 = true then ((spec_SameText.f bt262.1 bt258.1).bind fun t266 => (if t266 = true then ((impl_ChainInner.f kj30 a0_0 a0_1 a0_2 a0_3 a0_4 a0_5 l4 (l5.take (a3 : Int).toNat) a1).bind fun t271 => ((spec_SameText.f t247 t271).bind fun t274 => (some t274))) else (none))) else (none)) else (none)))) else (none)) else (none)) = some r := by rw [if_neg (show ¬ (false = true) by decide)] at H; exact H
                          clear H
                          have H := H1
                          clear H1
                          by_cases c46 : 0 ≤ a3
                          · rw [if_pos c46] at H
                            have c46b0 := eq_true c46
                            have c46b1 : decide (0 ≤ a3) = true := decide_eq_true c46
                            clear c46
                            obtain ⟨ji47, hji47⟩ : ∃ j_ : Int, (shr .u64 a1 a3) = j_ := ⟨_, rfl⟩
                            replace H : (if a3 ≤ (l5.length : Int) then ((impl_RootOfInclusion.f kj30 a0_0 a0_1 a0_2 a0_3 a0_4 a0_5 (ji47) a2 t247 (l5.drop (a3 : Int).toNat)).bind fun bt258 => ((impl_RootOfInclusion.f kj30 a0_0 a0_1 a0_2 a0_3 a0_4 a0_5 a1 (shl .u64 a2 a3) l4 l5).bind fun bt262 => (if bt258.2 = true then (if bt262.2 = true then ((spec_SameText.f bt262.1 bt258.1).bind fun t266 => (if t266 = true then ((impl_ChainInner.f kj30 a0_0 a0_1 a0_2 a0_3 a0_4 a0_5 l4 (l5.take (a3 : Int).toNat) a1).bind fun t271 => ((spec_SameText.f t247 t271).bind fun t274 => (some t274))) else (none))) else (none)) else (none)))) else (none)) = some r := by first | (rw [hji47] at H; exact H) | (simp only [hji47] at H ⊢; exact H)
                            have hji47_ : (a1 / 2 ^ min a3.toNat 64) = ji47 := hji47
                            have hji47z : a3 ≤ 64 → (a1 / 2 ^ a3.toNat) = ji47 := shr_small hji47
                            have c48b0 := eq_true (of_decide_eq_true (by first | (with_reducible assumption) | assumption) : 0 ≤ a3)
                            by_cases c49 : a3 ≤ (l5.length : Int)
                            · rw [if_pos c49] at H
                              have c49b0 := eq_true c49
                              have c49b1 : decide (a3 ≤ (l5.length : Int)) = true := decide_eq_true c49
                              clear c49
                              obtain ⟨y254, hy254⟩ : ∃ y_ : List (List Int), y_ = (l5.drop (a3 : Int).toNat) := ⟨_, rfl⟩
                              replace H : ((impl_RootOfInclusion.f kj30 a0_0 a0_1 a0_2 a0_3 a0_4 a0_5 (ji47) a2 t247 y254).bind fun bt258 => ((impl_RootOfInclusion.f kj30 a0_0 a0_1 a0_2 a0_3 a0_4 a0_5 a1 (shl .u64 a2 a3) l4 l5).bind fun bt262 => (if bt258.2 = true then (if bt262.2 = true then ((spec_SameText.f bt262.1 bt258.1).bind fun t266 => (if t266 = true then ((impl_ChainInner.f kj30 a0_0 a0_1 a0_2 a0_3 a0_4 a0_5 l4 (l5.take (a3 : Int).toNat) a1).bind fun t271 => ((spec_SameText.f t247 t271).bind fun t274 => (some t274))) else (none))) else (none)) else (none)))) = some r := by first | (rw [hy254]; with_reducible exact H) | (have H2_ := (Option.bind_some _ _).symm.trans H; rw [hy254]; with_reducible exact H2_) | (have H2_ := (Option.bind_some _ _).symm.trans H; with_reducible exact H2_) | with_reducible exact H | (rw [hy254]; exact H) | exact H
                              have Ny254 := Aside0.mk hy254
                              clear hy254
                              replace H := Option.bind_eq_some_iff.mp H
                              obtain ⟨⟨t258, t261⟩, A500, H⟩ := H
                              replace H : ((impl_RootOfInclusion.f kj30 a0_0 a0_1 a0_2 a0_3 a0_4 a0_5 a1 (shl .u64 a2 a3) l4 l5).bind fun bt262 => (if t261 = true then (if bt262.2 = true then ((spec_SameText.f bt262.1 t258).bind fun t266 => (if t266 = true then ((impl_ChainInner.f kj30 a0_0 a0_1 a0_2 a0_3 a0_4 a0_5 l4 (l5.take (a3 : Int).toNat) a1).bind fun t271 => ((spec_SameText.f t247 t271).bind fun t274 => (some t274))) else (none))) else (none)) else (none))) = some r := H
                              have A50 := Aside0.mk A500
                              clear A500
                              have c51b0 := eq_true (of_decide_eq_true (by first | (with_reducible assumption) | assumption) : 0 ≤ a3)
                              obtain ⟨ji52, hji52⟩ : ∃ j_ : Int, (shl .u64 a2 a3) = j_ := ⟨_, rfl⟩
                              replace H : ((impl_RootOfInclusion.f kj30 a0_0 a0_1 a0_2 a0_3 a0_4 a0_5 a1 (ji52) l4 l5).bind fun bt262 => (if t261 = true then (if bt262.2 = true then ((spec_SameText.f bt262.1 t258).bind fun t266 => (if t266 = true then ((impl_ChainInner.f kj30 a0_0 a0_1 a0_2 a0_3 a0_4 a0_5 l4 (l5.take (a3 : Int).toNat) a1).bind fun t271 => ((spec_SameText.f t247 t271).bind fun t274 => (some t274))) else (none))) else (none)) else (none))) = some r := by first | (rw [hji52] at H; exact H) | (simp only [hji52] at H ⊢; exact H)
                              (try rw [hji52] at A50)
                              have hji52_ : (IntKind.u64.wrap (a2 * 2 ^ min a3.toNat 64)) = ji52 := hji52
                              have hji52z : a3 ≤ 64 → (IntKind.u64.wrap (a2 * 2 ^ a3.toNat)) = ji52 := shl_small hji52
                              replace H := Option.bind_eq_some_iff.mp H
                              obtain ⟨⟨t262, t265⟩, A530, H⟩ := H
                              replace H : (if t261 = true then (if t265 = true then ((spec_SameText.f t262 t258).bind fun t266 => (if t266 = true then ((impl_ChainInner.f kj30 a0_0 a0_1 a0_2 a0_3 a0_4 a0_5 l4 (l5.take (a3 : Int).toNat) a1).bind fun t271 => ((spec_SameText.f t247 t271).bind fun t274 => (some t274))) else (none))) else (none)) else (none)) = some r := H
                              have A53 := Aside0.mk A530
                              clear A530
                              by_cases c54 : t261 = true
                              · subst c54
                                have H1 : (if t265 = true then ((spec_SameText.f t262 t258).bind fun t266 => (if t266 = true then ((impl_ChainInner.f kj30 a0_0 a0_1 a0_2 a0_3 a0_4 a0_5 l4 (l5.take (a3 : Int).toNat) a1).bind fun t271 => ((spec_SameText.f t247 t271).bind fun t274 => (some t274))) else (none))) else (none)) = some r := by rw [if_pos rfl] at H; exact H
                                clear H
                                have H := H1
                                clear H1
                                by_cases c55 : t265 = true
                                · subst c55
                                  have H1 : ((spec_SameText.f t262 t258).bind fun t266 => (if t266 = true then ((impl_ChainInner.f kj30 a0_0 a0_1 a0_2 a0_3 a0_4 a0_5 l4 (l5.take (a3 : Int).toNat) a1).bind fun t271 => ((spec_SameText.f t247 t271).bind fun t274 => (some t274))) else (none))) = some r := by rw [if_pos rfl] at H; exact H
                                  clear H
                                  have H := H1
                                  clear H1
                                  replace H := Option.bind_eq_some_iff.mp H
                                  obtain ⟨t266, A560, H⟩ := H
                                  replace H : (if t266 = true then ((impl_ChainInner.f kj30 a0_0 a0_1 a0_2 a0_3 a0_4 a0_5 l4 (l5.take (a3 : Int).toNat) a1).bind fun t271 => ((spec_SameText.f t247 t271).bind fun t274 => (some t274))) else (none)) = some r := H
                                  have A56 := Aside0.mk A560
                                  clear A560
                                  by_cases c57 : t266 = true
                                  · subst c57
                                    have H1 : ((impl_ChainInner.f kj30 a0_0 a0_1 a0_2 a0_3 a0_4 a0_5 l4 (l5.take (a3 : Int).toNat) a1).bind fun t271 => ((spec_SameText.f t247 t271).bind fun t274 => (some t274))) = some r := by rw [if_pos rfl] at H; exact H
                                    clear H
                                    have H := H1
                                    clear H1
                                    have c58b0 := eq_true (of_decide_eq_true (by first | (with_reducible assumption) | assumption) : 0 ≤ a3)
                                    have c59b0 := eq_true (of_decide_eq_true (by first | (with_reducible assumption) | assumption) : a3 ≤ (l5.length : Int))
                                    obtain ⟨y267, hy267⟩ : ∃ y_ : List (List Int), y_ = (l5.take (a3 : Int).toNat) := ⟨_, rfl⟩
                                    replace H : ((impl_ChainInner.f kj30 a0_0 a0_1 a0_2 a0_3 a0_4 a0_5 l4 y267 a1).bind fun t271 => ((spec_SameText.f t247 t271).bind fun t274 => (some t274))) = some r := by first | (rw [hy267]; with_reducible exact H) | (have H2_ := (Option.bind_some _ _).symm.trans H; rw [hy267]; with_reducible exact H2_) | (have H2_ := (Option.bind_some _ _).symm.trans H; with_reducible exact H2_) | with_reducible exact H | (rw [hy267]; exact H) | exact H
                                    have Ny267 := Aside0.mk hy267
                                    clear hy267
                                    replace H := Option.bind_eq_some_iff.mp H
                                    obtain ⟨t271, A600, H⟩ := H
                                    replace H : ((spec_SameText.f t247 t271).bind fun t274 => (some t274)) = some r := H
                                    have A60 := Aside0.mk A600
                                    clear A600
                                    replace H := Option.bind_eq_some_iff.mp H
                                    obtain ⟨t274, A610, H⟩ := H
                                    replace H : (some t274) = some r := H
                                    have A61 := Aside0.mk A610
                                    clear A610
                                    obtain rfl := Option.some.inj H
                                    try go_wp2
                                    (try (rw [drewN_self wc]; generalize hq_ : World.drewN wc _ = wc; have n0_ : Aside0 (Kd.R (Kd.int .u8) 5 wc w.heap.size (fun _ => True) v248 t247) := ⟨by rw [← hq_]; exact (by (with_reducible repeat (first | apply Kd.R_alloc | apply Kd.R_drewN | apply Kd.R_drew)); exact HO_13.out)⟩; have n1_ : Aside0 (wc.heap[gb239]? = some (.cells #[.int .i64 a0_0, .int .i64 a0_1, .int .i64 a0_2, .int .u64 a0_3, .int .u64 a0_4, .int .u64 a0_5] 24 (0, 0))) := ⟨by rw [← hq_]; exact (by (with_reducible repeat (first | refine blk_drewN ?_ _ | refine blk_drew ?_ | refine blk_alloc ?_ _)); exact BK239.out)⟩; have n2_ : Aside0 (Below w.heap.size w wc) := ⟨by rw [← hq_]; exact (by repeat (first | (with_reducible first | exact HB.out | apply below_alloc | apply pw_below_drewN | apply below_drew1 | refine below_set ?_ GE239.out) | exact HB.out))⟩; clear HO_13 BK239 HB hq_; have HO_13 := n0_; have BK239 := n1_; have HB := n2_; clear n0_ n1_ n2_))
                                    have n0_ := Aside0.mk (Kd.R_drew HO_13.out)
                                    have n1_ := Aside0.mk (blk_drew BK239.out)
                                    have n2_ := Aside0.mk (below_drew1 HB.out)
                                    clear HO_13
                                    clear BK239
                                    clear HB
                                    have HO_13 := n0_
                                    have BK239 := n1_
                                    have HB := n2_
                                    clear n0_ n1_ n2_
                                    have q63 : (a3 : Int) ≤ ((l5.length : Int) : Int) := of_decide_eq_true (by first | (with_reducible assumption) | assumption)
                                    obtain ⟨i063, hi063, _, hsz63, _⟩ := info_parts info25
                                    have hroom63 : l5.length ≤ c5 := HC5.out
                                    have hC63 : Kd.C (Kd.slice 5 (Kd.int .u8)) _ A5 l5.length l5 := HR5.out
                                    have q063 : (0 : Int) ≤ (a3 : Int) := of_decide_eq_true (by first | (with_reducible assumption) | assumption)
                                    (try clear hcut33)
                                    have hcut63 := cut_from (P := Try.prog) 26 25 .i64 Try.underlying26 hi063 1 hsz63 A5 l5.length c5 a3 q063 q63
                                    have hr63 := Kd.C_drop (m := (a3 : Int).toNat) (c := c5) hC63 (by omega) hroom63
                                    obtain ⟨A63, hA63⟩ : ∃ A1, A1 = (if c5 = (a3 : Int).toNat then A5 else (A5 : Option Addr).map (·.add ((a3 : Int).toNat * 1))) := ⟨_, rfl⟩
                                    obtain ⟨c63, hc63⟩ : ∃ c1, c1 = c5 - (a3 : Int).toNat := ⟨_, rfl⟩
                                    have hy63 : y254.length = l5.length - (a3 : Int).toNat := (by rw [Ny254.out, List.length_drop] <;> omega)
                                    rw [show (l5).drop (a3 : Int).toNat = y254 from Ny254.out.symm] at hr63
                                    replace hr63 : Kd.C (Kd.slice 5 (Kd.int .u8)) _ A63 y254.length y254 := (by rw [hA63]; exact hr63)
                                    rw [← hy63, ← hA63, ← hc63] at hcut63
                                    have HR257 := Aside0.mk hr63
                                    have HC257 := Aside0.mk (show y254.length ≤ c63 from by rw [hy63, hc63]; exact Nat.sub_le_sub_right hroom63 _)
                                    clear hr63 hC63 hroom63 hi063 hsz63 hc63
                                    have KY63 := Aside0.mk hy63
                                    have KA63 := Aside0.mk hA63
                                    clear hy63 hA63
                                    replace q63 := eq_true q63
                                    obtain ⟨Ao64, co64, eo64⟩ := Kd.R_slice HO_13.out
                                    (first | subst eo64 | (injection eo64 with f1_ f2_ f3_; have f4_ := f1_.symm; have f5_ := f3_.symm; clear f1_ f2_ f3_; subst f4_; subst f5_))
                                    refine start_ (n := 15) (S := fun w' => w'.cell? ⟨gb239, 0, none⟩ = some (.int .i64 a0_0) ∧ w'.cell? ⟨gb239, 1, none⟩ = some (.int .i64 a0_1) ∧ w'.cell? ⟨gb239, 2, none⟩ = some (.int .i64 a0_2) ∧ w'.cell? ⟨gb239, 3, none⟩ = some (.int .u64 a0_3) ∧ w'.cell? ⟨gb239, 4, none⟩ = some (.int .u64 a0_4) ∧ w'.cell? ⟨gb239, 5, none⟩ = some (.int .u64 a0_5)) (ds := []) #[false, false, false, false, false, false, false, false, false, false, false, false, false, false, false] (by kernel_rfl) rfl rfl ⟨(blk_cell BK239.out 0).trans rfl, (blk_cell BK239.out 1).trans rfl, (blk_cell BK239.out 2).trans rfl, (blk_cell BK239.out 3).trans rfl, (blk_cell BK239.out 4).trans rfl, (blk_cell BK239.out 5).trans rfl⟩ (fun hHeld => ?_); refine with_tabW laws_FnInclusionInTree.tab10 laws_FnInclusionInTree.bits10 (fun HT_ HW_ => ?_)
                                    generalize wc.drew = w62 at HO_13 BK239 HB HR257 hHeld ⊢
                                    refine pure_ (i := 1) (N := some 98) (v := ?_) (a' := ?_) #[false, true, false, false, false, false, false, false, false, false, false, false, false, false, false] rfl rfl (any_of HT_.out (by kernel_rfl)) (fun _ _ _ h => h) (Or.inl ⟨by rfl, ?_⟩) ?_ ?_
                                    rotate_left
                                    · intro w'
                                      go_simp
                                      with_reducible rfl
                                    rotate_left
                                    · simp only [Act.put, List.setIfInBounds_toArray, List.set_cons_zero, List.set_cons_succ, i64_w, i32_w]
                                      rfl
                                    refine pure_ (i := 2) (N := some 99) (v := ?_) (a' := ?_) #[false, true, true, false, false, false, false, false, false, false, false, false, false, false, false] rfl rfl (any_of HT_.out (by kernel_rfl)) (fun _ _ _ h => h) (Or.inl ⟨by rfl, ?_⟩) ?_ ?_
                                    rotate_left
                                    · intro w'
                                      go_simp
                                      with_reducible rfl
                                    rotate_left
                                    · simp only [Act.put, List.setIfInBounds_toArray, List.set_cons_zero, List.set_cons_succ, i64_w, i32_w]
                                      rfl
                                    refine pure_ (i := 3) (N := some 100) (v := ?_) (a' := ?_) #[false, true, true, true, false, false, false, false, false, false, false, false, false, false, false] rfl rfl (any_of HT_.out (by kernel_rfl)) (fun _ _ _ h => h) (Or.inl ⟨by rfl, ?_⟩) ?_ ?_
                                    rotate_left
                                    · intro w'
                                      go_simp
                                      with_reducible rfl
                                    rotate_left
                                    · simp only [Act.put, List.setIfInBounds_toArray, List.set_cons_zero, List.set_cons_succ, i64_w, i32_w]
                                      rfl
                                    refine pure_ (i := 4) (N := some 101) (v := ?_) (a' := ?_) #[false, true, true, true, true, false, false, false, false, false, false, false, false, false, false] rfl rfl (any_of HT_.out (by kernel_rfl)) (fun _ _ _ h => h) (Or.inl ⟨by rfl, ?_⟩) ?_ ?_
                                    rotate_left
                                    · intro w'
                                      go_simp
                                      with_reducible rfl
                                    rotate_left
                                    · simp only [Act.put, List.setIfInBounds_toArray, List.set_cons_zero, List.set_cons_succ, i64_w, i32_w]
                                      rfl
                                    refine pure_ (i := 5) (N := some 102) (v := ?_) (a' := ?_) #[false, true, true, true, true, true, false, false, false, false, false, false, false, false, false] rfl rfl (any_of HT_.out (by kernel_rfl)) (fun _ _ _ h => h) (Or.inl ⟨by rfl, ?_⟩) ?_ ?_
                                    rotate_left
                                    · intro w'
                                      go_simp
                                      with_reducible rfl
                                    rotate_left
                                    · simp only [Act.put, List.setIfInBounds_toArray, List.set_cons_zero, List.set_cons_succ, i64_w, i32_w]
                                      rfl
                                    refine pure_ (i := 6) (N := some 103) (v := ?_) (a' := ?_) #[false, true, true, true, true, true, true, false, false, false, false, false, false, false, false] rfl rfl (any_of HT_.out (by kernel_rfl)) (fun _ _ _ h => h) (Or.inl ⟨by rfl, ?_⟩) ?_ ?_
                                    rotate_left
                                    · intro w'
                                      go_simp
                                      with_reducible rfl
                                    rotate_left
                                    · simp only [Act.put, List.setIfInBounds_toArray, List.set_cons_zero, List.set_cons_succ, i64_w, i32_w]
                                      rfl
                                    refine pure_ (i := 7) (N := some 104) (v := ?_) (a' := ?_) #[false, true, true, true, true, true, true, true, false, false, false, false, false, false, false] rfl rfl (any_of HT_.out (by kernel_rfl)) (fun _ _ _ h => h) (Or.inl ⟨by rfl, ?_⟩) ?_ ?_
                                    rotate_left
                                    · intro w'
                                      go_simp
                                      with_reducible rfl
                                    rotate_left
                                    · simp only [Act.put, List.setIfInBounds_toArray, List.set_cons_zero, List.set_cons_succ, i64_w, i32_w]
                                      rfl
                                    refine pure_ (i := 8) (N := some 105) (v := ?_) (a' := ?_) #[false, true, true, true, true, true, true, true, true, false, false, false, false, false, false] rfl rfl (any_of HT_.out (by kernel_rfl)) (fun _ _ _ h => h) (Or.inl ⟨by rfl, ?_⟩) ?_ ?_
                                    rotate_left
                                    · intro w'
                                      go_simp
                                      with_reducible rfl
                                    rotate_left
                                    · simp only [Act.put, List.setIfInBounds_toArray, List.set_cons_zero, List.set_cons_succ, i64_w, i32_w]
                                      rfl
                                    refine take_ (i := 0) (N := some 97) (v := ?_) (a' := ?_) #[true, true, true, true, true, true, true, true, true, false, false, false, false, false, false] rfl rfl (take_ofW HT_.out HW_.out (by kernel_rfl)) (fun _ _ _ h => h) (Or.inl ⟨by rfl, ?_⟩) hHeld ?_ ?_
                                    rotate_left
                                    · rintro w' ⟨s0, s1, s2, s3, s4, s5⟩
                                      go_simp
                                      with_reducible rfl
                                    rotate_left
                                    · simp only [Act.put, List.setIfInBounds_toArray, List.set_cons_zero, List.set_cons_succ, i64_w, i32_w]
                                      rfl
                                    refine one_ (i := 9) (N := some 106) #[true, true, true, true, true, true, true, true, true, true, false, false, false, false, false] rfl rfl (one_of HT_.out (by kernel_rfl)) (by decide) (fun K hK => ?_)
                                    refine goes_ Try.func17 (by kernel_rfl) rfl #[.agg #[.int .i64 a0_0, .int .i64 a0_1, .int .i64 a0_2, .int .u64 a0_3, .int .u64 a0_4, .int .u64 a0_5], .int .u64 ji47, .int .u64 a2, .slice Ao64 t247.length co64, .slice A63 y254.length c63] (by rfl) rfl rfl (by (try simp only [List.map_toArray, List.map_cons, List.map_nil]); first | done | (simp only [hji47]; rfl) | rfl | (simp only [List.length_drop, List.length_take]; rfl)) ?_
                                    with_reducible refine (impl_RootOfInclusion.calls kj30 a0_0 a0_1 a0_2 a0_3 a0_4 a0_5 ji47 a2 _ _ t247 _ _ y254 t258 true _ ?side1 ?side2 ?side3 ?side4 A50.out).mono ?_
                                    (case side1 => repeat (first | exact (Kd.R_reads' HO_13.out).2.2 | (with_reducible refine Kd.C_alloc ?_ _) | (with_reducible refine Kd.C_drewN ?_ _) | (with_reducible refine Kd.C_drew ?_)))
                                    (case side2 => exact (Kd.R_reads' HO_13.out).2.1)
                                    (case side3 => repeat (first | exact (Kd.C_below HR257.out HB.out) | (with_reducible refine Kd.C_alloc ?_ _) | (with_reducible refine Kd.C_drewN ?_ _) | (with_reducible refine Kd.C_drew ?_)))
                                    (case side4 => exact HC257.out)
                                    rintro e w65 ⟨v259, rfl, ho0, hb⟩
                                    refine ⟨_, rfl, ?_⟩
                                    have n0_ := Aside0.mk (Kd.R_elder' (by (with_reducible repeat (first | apply Kd.R_alloc | apply Kd.R_drewN | apply Kd.R_drew)); exact HO_13.out) (Kd.R_base ho0) hb)
                                    have n1_ := Aside0.mk (Kd.R_lower (Kd.R_new' ho0 (Kd.R_lt (by (with_reducible repeat (first | apply Kd.R_alloc | apply Kd.R_drewN | apply Kd.R_drew)); exact HO_13.out))) (below_size (by repeat (first | (with_reducible first | exact HB.out | apply below_alloc | apply pw_below_drewN | apply below_drew1 | refine below_set ?_ GE239.out) | exact HB.out))))
                                    have n2_ := Aside0.mk (blk_below (g := gb239) (o := .cells #[.int .i64 a0_0, .int .i64 a0_1, .int .i64 a0_2, .int .u64 a0_3, .int .u64 a0_4, .int .u64 a0_5] 24 (0, 0)) (by (with_reducible repeat (first | refine blk_drewN ?_ _ | refine blk_drew ?_ | refine blk_alloc ?_ _)); exact BK239.out) hb)
                                    have n3_ := Aside0.mk (below_step (by repeat (first | (with_reducible first | exact HB.out | apply below_alloc | apply pw_below_drewN | apply below_drew1 | refine below_set ?_ GE239.out) | exact HB.out)) hb)
                                    clear HO_13
                                    clear BK239
                                    clear HB
                                    have HO_13 := n0_
                                    have HO260 := n1_
                                    have BK239 := n2_
                                    have HB := n3_
                                    clear n0_ n1_ n2_ n3_
                                    (try clear hb)
                                    (try clear hb2)
                                    (try clear hk)
                                    (try clear hi)
                                    (try clear ho0)
                                    refine hK.out _ _ ⟨(blk_cell BK239.out 0).trans rfl, (blk_cell BK239.out 1).trans rfl, (blk_cell BK239.out 2).trans rfl, (blk_cell BK239.out 3).trans rfl, (blk_cell BK239.out 4).trans rfl, (blk_cell BK239.out 5).trans rfl⟩ (fun hHeld => ?_)
                                    clear hK K
                                    refine norm_ (a' := ?_) ?_ ?_
                                    rotate_left
                                    · show Act.put _ (some 106) _ = _
                                      simp only [Act.put, List.setIfInBounds_toArray, List.set_cons_zero, List.set_cons_succ, i64_w, i32_w]
                                      rfl
                                    refine pure_ (i := 10) (N := some 96) (v := ?_) (a' := ?_) #[true, true, true, true, true, true, true, true, true, true, true, false, false, false, false] rfl rfl (any_of HT_.out (by kernel_rfl)) (fun _ _ _ h => h) (Or.inl ⟨by rfl, ?_⟩) ?_ ?_
                                    rotate_left
                                    · intro w'
                                      go_simp
                                      with_reducible rfl
                                    rotate_left
                                    · simp only [Act.put, List.setIfInBounds_toArray, List.set_cons_zero, List.set_cons_succ, i64_w, i32_w]
                                      rfl
                                    refine pure_ (i := 11) (N := some 107) (v := ?_) (a' := ?_) #[true, true, true, true, true, true, true, true, true, true, true, true, false, false, false] rfl rfl (any_of HT_.out (by kernel_rfl)) (fun _ _ _ h => h) (Or.inl ⟨by rfl, ?_⟩) ?_ ?_
                                    rotate_left
                                    · intro w'
                                      go_simp
                                      with_reducible rfl
                                    rotate_left
                                    · simp only [Act.put, List.setIfInBounds_toArray, List.set_cons_zero, List.set_cons_succ, i64_w, i32_w]
                                      rfl
                                    refine pure_ (i := 12) (N := some 108) (v := ?_) (a' := ?_) #[true, true, true, true, true, true, true, true, true, true, true, true, true, false, false] rfl rfl (any_of HT_.out (by kernel_rfl)) (fun _ _ _ h => h) (Or.inl ⟨by rfl, ?_⟩) ?_ ?_
                                    rotate_left
                                    · intro w'
                                      go_simp
                                      with_reducible rfl
                                    rotate_left
                                    · simp only [Act.put, List.setIfInBounds_toArray, List.set_cons_zero, List.set_cons_succ, i64_w, i32_w]
                                      rfl
                                    refine pure_ (i := 13) (N := some 15) (v := ?_) (a' := ?_) #[true, true, true, true, true, true, true, true, true, true, true, true, true, true, false] rfl rfl (any_of HT_.out (by kernel_rfl)) (fun _ _ _ h => h) (Or.inl ⟨by rfl, ?_⟩) ?_ ?_
                                    rotate_left
                                    · intro w'
                                      go_simp
                                      with_reducible rfl
                                    rotate_left
                                    · simp only [Act.put, List.setIfInBounds_toArray, List.set_cons_zero, List.set_cons_succ, i64_w, i32_w]
                                      rfl
                                    refine pure_ (i := 14) (N := some 16) (v := ?_) (a' := ?_) #[true, true, true, true, true, true, true, true, true, true, true, true, true, true, true] rfl rfl (any_of HT_.out (by kernel_rfl)) (fun _ _ _ h => h) (Or.inl ⟨by rfl, ?_⟩) ?_ ?_
                                    rotate_left
                                    · intro w'
                                      go_simp
                                      with_reducible rfl
                                    rotate_left
                                    · simp only [Act.put, List.setIfInBounds_toArray, List.set_cons_zero, List.set_cons_succ, i64_w, i32_w]
                                      rfl
                                    refine done_ (done_of HT_.out (by kernel_rfl)) ?_
                                    try go_wp2
                                    (try (rw [drewN_self w65]; generalize hq_ : World.drewN w65 _ = w65; have n0_ : Aside0 (Kd.R (Kd.int .u8) 5 w65 w.heap.size (fun k_ => some k_ ≠ (.slice Ao64 t247.length co64 : Value).ownBlock) v259 t258) := ⟨by rw [← hq_]; exact (by (with_reducible repeat (first | apply Kd.R_alloc | apply Kd.R_drewN | apply Kd.R_drew)); exact Kd.R_mono HO260.out (fun _ hk => hk.2))⟩; have n1_ : Aside0 (Kd.R (Kd.int .u8) 5 w65 w.heap.size (fun k_ => some k_ ≠ (v259 : Value).ownBlock) (.slice Ao64 t247.length co64) t247) := ⟨by rw [← hq_]; exact (by (with_reducible repeat (first | apply Kd.R_alloc | apply Kd.R_drewN | apply Kd.R_drew)); exact Kd.R_mono HO_13.out (fun _ hk => hk.2))⟩; have n2_ : Aside0 (w65.heap[gb239]? = some (.cells #[.int .i64 a0_0, .int .i64 a0_1, .int .i64 a0_2, .int .u64 a0_3, .int .u64 a0_4, .int .u64 a0_5] 24 (0, 0))) := ⟨by rw [← hq_]; exact (by (with_reducible repeat (first | refine blk_drewN ?_ _ | refine blk_drew ?_ | refine blk_alloc ?_ _)); exact BK239.out)⟩; have n3_ : Aside0 (Below w.heap.size w w65) := ⟨by rw [← hq_]; exact (by repeat (first | (with_reducible first | exact HB.out | apply below_alloc | apply pw_below_drewN | apply below_drew1 | refine below_set ?_ GE239.out) | exact HB.out))⟩; clear HO260 HO_13 BK239 HB hq_; have HO260 := n0_; have HO_13 := n1_; have BK239 := n2_; have HB := n3_; clear n0_ n1_ n2_ n3_))
                                    have n0_ := Aside0.mk (Kd.R_drew HO_13.out)
                                    have n1_ := Aside0.mk (Kd.R_drew HO260.out)
                                    have n2_ := Aside0.mk (blk_drew BK239.out)
                                    have n3_ := Aside0.mk (below_drew1 HB.out)
                                    clear HO_13
                                    clear HO260
                                    clear BK239
                                    clear HB
                                    have HO_13 := n0_
                                    have HO260 := n1_
                                    have BK239 := n2_
                                    have HB := n3_
                                    clear n0_ n1_ n2_ n3_
                                    refine start_ (n := 13) (S := fun w' => w'.cell? ⟨gb239, 0, none⟩ = some (.int .i64 a0_0) ∧ w'.cell? ⟨gb239, 1, none⟩ = some (.int .i64 a0_1) ∧ w'.cell? ⟨gb239, 2, none⟩ = some (.int .i64 a0_2) ∧ w'.cell? ⟨gb239, 3, none⟩ = some (.int .u64 a0_3) ∧ w'.cell? ⟨gb239, 4, none⟩ = some (.int .u64 a0_4) ∧ w'.cell? ⟨gb239, 5, none⟩ = some (.int .u64 a0_5)) (ds := []) #[false, false, false, false, false, false, false, false, false, false, false, false, false] (by kernel_rfl) rfl rfl ⟨(blk_cell BK239.out 0).trans rfl, (blk_cell BK239.out 1).trans rfl, (blk_cell BK239.out 2).trans rfl, (blk_cell BK239.out 3).trans rfl, (blk_cell BK239.out 4).trans rfl, (blk_cell BK239.out 5).trans rfl⟩ (fun hHeld => ?_); refine with_tabW laws_FnInclusionInTree.tab11 laws_FnInclusionInTree.bits11 (fun HT_ HW_ => ?_)
                                    generalize w65.drew = w66 at HO_13 HO260 BK239 HB hHeld ⊢
                                    refine pure_ (i := 1) (N := some 111) (v := ?_) (a' := ?_) #[false, true, false, false, false, false, false, false, false, false, false, false, false] rfl rfl (any_of HT_.out (by kernel_rfl)) (fun _ _ _ h => h) (Or.inl ⟨by rfl, ?_⟩) ?_ ?_
                                    rotate_left
                                    · intro w'
                                      go_simp
                                      with_reducible rfl
                                    rotate_left
                                    · simp only [Act.put, List.setIfInBounds_toArray, List.set_cons_zero, List.set_cons_succ, i64_w, i32_w]
                                      rfl
                                    refine pure_ (i := 2) (N := some 112) (v := ?_) (a' := ?_) #[false, true, true, false, false, false, false, false, false, false, false, false, false] rfl rfl (any_of HT_.out (by kernel_rfl)) (fun _ _ _ h => h) (Or.inl ⟨by rfl, ?_⟩) ?_ ?_
                                    rotate_left
                                    · intro w'
                                      go_simp
                                      with_reducible rfl
                                    rotate_left
                                    · simp only [Act.put, List.setIfInBounds_toArray, List.set_cons_zero, List.set_cons_succ, i64_w, i32_w]
                                      rfl
                                    refine pure_ (i := 3) (N := some 113) (v := ?_) (a' := ?_) #[false, true, true, true, false, false, false, false, false, false, false, false, false] rfl rfl (any_of HT_.out (by kernel_rfl)) (fun _ _ _ h => h) (Or.inl ⟨by rfl, ?_⟩) ?_ ?_
                                    rotate_left
                                    · intro w'
                                      go_simp
                                      with_reducible rfl
                                    rotate_left
                                    · simp only [Act.put, List.setIfInBounds_toArray, List.set_cons_zero, List.set_cons_succ, i64_w, i32_w]
                                      rfl
                                    refine pure_ (i := 4) (N := some 114) (v := ?_) (a' := ?_) #[false, true, true, true, true, false, false, false, false, false, false, false, false] rfl rfl (any_of HT_.out (by kernel_rfl)) (fun _ _ _ h => h) (Or.inl ⟨by rfl, ?_⟩) ?_ ?_
                                    rotate_left
                                    · intro w'
                                      go_simp
                                      with_reducible rfl
                                    rotate_left
                                    · simp only [Act.put, List.setIfInBounds_toArray, List.set_cons_zero, List.set_cons_succ, i64_w, i32_w]
                                      rfl
                                    refine pure_ (i := 5) (N := some 115) (v := ?_) (a' := ?_) #[false, true, true, true, true, true, false, false, false, false, false, false, false] rfl rfl (any_of HT_.out (by kernel_rfl)) (fun _ _ _ h => h) (Or.inl ⟨by rfl, ?_⟩) ?_ ?_
                                    rotate_left
                                    · intro w'
                                      go_simp
                                      with_reducible rfl
                                    rotate_left
                                    · simp only [Act.put, List.setIfInBounds_toArray, List.set_cons_zero, List.set_cons_succ, i64_w, i32_w]
                                      rfl
                                    refine pure_ (i := 6) (N := some 116) (v := ?_) (a' := ?_) #[false, true, true, true, true, true, true, false, false, false, false, false, false] rfl rfl (any_of HT_.out (by kernel_rfl)) (fun _ _ _ h => h) (Or.inl ⟨by rfl, ?_⟩) ?_ ?_
                                    rotate_left
                                    · intro w'
                                      go_simp
                                      with_reducible rfl
                                    rotate_left
                                    · simp only [Act.put, List.setIfInBounds_toArray, List.set_cons_zero, List.set_cons_succ, i64_w, i32_w]
                                      rfl
                                    refine take_ (i := 0) (N := some 110) (v := ?_) (a' := ?_) #[true, true, true, true, true, true, true, false, false, false, false, false, false] rfl rfl (take_ofW HT_.out HW_.out (by kernel_rfl)) (fun _ _ _ h => h) (Or.inl ⟨by rfl, ?_⟩) hHeld ?_ ?_
                                    rotate_left
                                    · rintro w' ⟨s0, s1, s2, s3, s4, s5⟩
                                      go_simp
                                      with_reducible rfl
                                    rotate_left
                                    · simp only [Act.put, List.setIfInBounds_toArray, List.set_cons_zero, List.set_cons_succ, i64_w, i32_w]
                                      rfl
                                    refine one_ (i := 7) (N := some 117) #[true, true, true, true, true, true, true, true, false, false, false, false, false] rfl rfl (one_of HT_.out (by kernel_rfl)) (by decide) (fun K hK => ?_)
                                    refine goes_ Try.func17 (by kernel_rfl) rfl #[.agg #[.int .i64 a0_0, .int .i64 a0_1, .int .i64 a0_2, .int .u64 a0_3, .int .u64 a0_4, .int .u64 a0_5], .int .u64 a1, .int .u64 ji52, .slice A4 l4.length c4, .slice A5 l5.length c5] (by rfl) rfl rfl (by (try simp only [List.map_toArray, List.map_cons, List.map_nil]); first | done | (simp only [hji52]; rfl) | rfl | (simp only [List.length_drop, List.length_take]; rfl)) ?_
                                    with_reducible refine (impl_RootOfInclusion.calls kj30 a0_0 a0_1 a0_2 a0_3 a0_4 a0_5 a1 ji52 _ _ l4 _ _ l5 t262 true _ ?side1 ?side2 ?side3 ?side4 A53.out).mono ?_
                                    (case side1 => repeat (first | exact (Kd.C_below HR4.out HB.out) | (with_reducible refine Kd.C_alloc ?_ _) | (with_reducible refine Kd.C_drewN ?_ _) | (with_reducible refine Kd.C_drew ?_)))
                                    (case side2 => exact HC4.out)
                                    (case side3 => repeat (first | exact (Kd.C_below HR5.out HB.out) | (with_reducible refine Kd.C_alloc ?_ _) | (with_reducible refine Kd.C_drewN ?_ _) | (with_reducible refine Kd.C_drew ?_)))
                                    (case side4 => exact HC5.out)
                                    rintro e w67 ⟨v263, rfl, ho0, hb⟩
                                    refine ⟨_, rfl, ?_⟩
                                    have n0_ := Aside0.mk (Kd.R_elder' (by (with_reducible repeat (first | apply Kd.R_alloc | apply Kd.R_drewN | apply Kd.R_drew)); exact HO_13.out) (Kd.R_base ho0) hb)
                                    have n1_ := Aside0.mk (Kd.R_elder' (by (with_reducible repeat (first | apply Kd.R_alloc | apply Kd.R_drewN | apply Kd.R_drew)); exact HO260.out) (Kd.R_base ho0) hb)
                                    have n2_ := Aside0.mk (Kd.R_lower (Kd.R_new' (Kd.R_new' ho0 (Kd.R_lt (by (with_reducible repeat (first | apply Kd.R_alloc | apply Kd.R_drewN | apply Kd.R_drew)); exact HO_13.out))) (Kd.R_lt (by (with_reducible repeat (first | apply Kd.R_alloc | apply Kd.R_drewN | apply Kd.R_drew)); exact HO260.out))) (below_size (by repeat (first | (with_reducible first | exact HB.out | apply below_alloc | apply pw_below_drewN | apply below_drew1 | refine below_set ?_ GE239.out) | exact HB.out))))
                                    have n3_ := Aside0.mk (blk_below (g := gb239) (o := .cells #[.int .i64 a0_0, .int .i64 a0_1, .int .i64 a0_2, .int .u64 a0_3, .int .u64 a0_4, .int .u64 a0_5] 24 (0, 0)) (by (with_reducible repeat (first | refine blk_drewN ?_ _ | refine blk_drew ?_ | refine blk_alloc ?_ _)); exact BK239.out) hb)
                                    have n4_ := Aside0.mk (below_step (by repeat (first | (with_reducible first | exact HB.out | apply below_alloc | apply pw_below_drewN | apply below_drew1 | refine below_set ?_ GE239.out) | exact HB.out)) hb)
                                    clear HO_13
                                    clear HO260
                                    clear BK239
                                    clear HB
                                    have HO_13 := n0_
                                    have HO260 := n1_
                                    have HO264 := n2_
                                    have BK239 := n3_
                                    have HB := n4_
                                    clear n0_ n1_ n2_ n3_ n4_
                                    (try clear hb)
                                    (try clear hb2)
                                    (try clear hk)
                                    (try clear hi)
                                    (try clear ho0)
                                    refine hK.out _ _ ⟨(blk_cell BK239.out 0).trans rfl, (blk_cell BK239.out 1).trans rfl, (blk_cell BK239.out 2).trans rfl, (blk_cell BK239.out 3).trans rfl, (blk_cell BK239.out 4).trans rfl, (blk_cell BK239.out 5).trans rfl⟩ (fun hHeld => ?_)
                                    clear hK K
                                    refine norm_ (a' := ?_) ?_ ?_
                                    rotate_left
                                    · show Act.put _ (some 117) _ = _
                                      simp only [Act.put, List.setIfInBounds_toArray, List.set_cons_zero, List.set_cons_succ, i64_w, i32_w]
                                      rfl
                                    refine pure_ (i := 8) (N := some 109) (v := ?_) (a' := ?_) #[true, true, true, true, true, true, true, true, true, false, false, false, false] rfl rfl (any_of HT_.out (by kernel_rfl)) (fun _ _ _ h => h) (Or.inl ⟨by rfl, ?_⟩) ?_ ?_
                                    rotate_left
                                    · intro w'
                                      go_simp
                                      with_reducible rfl
                                    rotate_left
                                    · simp only [Act.put, List.setIfInBounds_toArray, List.set_cons_zero, List.set_cons_succ, i64_w, i32_w]
                                      rfl
                                    refine pure_ (i := 9) (N := some 118) (v := ?_) (a' := ?_) #[true, true, true, true, true, true, true, true, true, true, false, false, false] rfl rfl (any_of HT_.out (by kernel_rfl)) (fun _ _ _ h => h) (Or.inl ⟨by rfl, ?_⟩) ?_ ?_
                                    rotate_left
                                    · intro w'
                                      go_simp
                                      with_reducible rfl
                                    rotate_left
                                    · simp only [Act.put, List.setIfInBounds_toArray, List.set_cons_zero, List.set_cons_succ, i64_w, i32_w]
                                      rfl
                                    refine pure_ (i := 10) (N := some 119) (v := ?_) (a' := ?_) #[true, true, true, true, true, true, true, true, true, true, true, false, false] rfl rfl (any_of HT_.out (by kernel_rfl)) (fun _ _ _ h => h) (Or.inl ⟨by rfl, ?_⟩) ?_ ?_
                                    rotate_left
                                    · intro w'
                                      go_simp
                                      with_reducible rfl
                                    rotate_left
                                    · simp only [Act.put, List.setIfInBounds_toArray, List.set_cons_zero, List.set_cons_succ, i64_w, i32_w]
                                      rfl
                                    refine pure_ (i := 11) (N := some 17) (v := ?_) (a' := ?_) #[true, true, true, true, true, true, true, true, true, true, true, true, false] rfl rfl (any_of HT_.out (by kernel_rfl)) (fun _ _ _ h => h) (Or.inl ⟨by rfl, ?_⟩) ?_ ?_
                                    rotate_left
                                    · intro w'
                                      go_simp
                                      with_reducible rfl
                                    rotate_left
                                    · simp only [Act.put, List.setIfInBounds_toArray, List.set_cons_zero, List.set_cons_succ, i64_w, i32_w]
                                      rfl
                                    refine pure_ (i := 12) (N := some 18) (v := ?_) (a' := ?_) #[true, true, true, true, true, true, true, true, true, true, true, true, true] rfl rfl (any_of HT_.out (by kernel_rfl)) (fun _ _ _ h => h) (Or.inl ⟨by rfl, ?_⟩) ?_ ?_
                                    rotate_left
                                    · intro w'
                                      go_simp
                                      with_reducible rfl
                                    rotate_left
                                    · simp only [Act.put, List.setIfInBounds_toArray, List.set_cons_zero, List.set_cons_succ, i64_w, i32_w]
                                      rfl
                                    refine done_ (done_of HT_.out (by kernel_rfl)) ?_
                                    try go_wp2
                                    (try (rw [drewN_self w67]; generalize hq_ : World.drewN w67 _ = w67; have n0_ : Aside0 (Kd.R (Kd.int .u8) 5 w67 w.heap.size (fun k_ => some k_ ≠ (v263 : Value).ownBlock ∧ some k_ ≠ (.slice Ao64 t247.length co64 : Value).ownBlock) v259 t258) := ⟨by rw [← hq_]; exact (by (with_reducible repeat (first | apply Kd.R_alloc | apply Kd.R_drewN | apply Kd.R_drew)); exact Kd.R_mono HO260.out (fun _ hk => ⟨hk.2, hk.1.2⟩))⟩; have n1_ : Aside0 (Kd.R (Kd.int .u8) 5 w67 w.heap.size (fun k_ => some k_ ≠ (v259 : Value).ownBlock ∧ some k_ ≠ (.slice Ao64 t247.length co64 : Value).ownBlock) v263 t262) := ⟨by rw [← hq_]; exact (by (with_reducible repeat (first | apply Kd.R_alloc | apply Kd.R_drewN | apply Kd.R_drew)); exact Kd.R_mono HO264.out (fun _ hk => ⟨hk.2, hk.1.2⟩))⟩; have n2_ : Aside0 (Kd.R (Kd.int .u8) 5 w67 w.heap.size (fun k_ => some k_ ≠ (v259 : Value).ownBlock ∧ some k_ ≠ (v263 : Value).ownBlock) (.slice Ao64 t247.length co64) t247) := ⟨by rw [← hq_]; exact (by (with_reducible repeat (first | apply Kd.R_alloc | apply Kd.R_drewN | apply Kd.R_drew)); exact Kd.R_mono HO_13.out (fun _ hk => ⟨hk.1.2, hk.2⟩))⟩; have n3_ : Aside0 (w67.heap[gb239]? = some (.cells #[.int .i64 a0_0, .int .i64 a0_1, .int .i64 a0_2, .int .u64 a0_3, .int .u64 a0_4, .int .u64 a0_5] 24 (0, 0))) := ⟨by rw [← hq_]; exact (by (with_reducible repeat (first | refine blk_drewN ?_ _ | refine blk_drew ?_ | refine blk_alloc ?_ _)); exact BK239.out)⟩; have n4_ : Aside0 (Below w.heap.size w w67) := ⟨by rw [← hq_]; exact (by repeat (first | (with_reducible first | exact HB.out | apply below_alloc | apply pw_below_drewN | apply below_drew1 | refine below_set ?_ GE239.out) | exact HB.out))⟩; clear HO260 HO264 HO_13 BK239 HB hq_; have HO260 := n0_; have HO264 := n1_; have HO_13 := n2_; have BK239 := n3_; have HB := n4_; clear n0_ n1_ n2_ n3_ n4_))
                                    have n0_ := Aside0.mk (Kd.R_drew HO_13.out)
                                    have n1_ := Aside0.mk (Kd.R_drew HO260.out)
                                    have n2_ := Aside0.mk (Kd.R_drew HO264.out)
                                    have n3_ := Aside0.mk (blk_drew BK239.out)
                                    have n4_ := Aside0.mk (below_drew1 HB.out)
                                    clear HO_13
                                    clear HO260
                                    clear HO264
                                    clear BK239
                                    clear HB
                                    have HO_13 := n0_
                                    have HO260 := n1_
                                    have HO264 := n2_
                                    have BK239 := n3_
                                    have HB := n4_
                                    clear n0_ n1_ n2_ n3_ n4_
                                    obtain ⟨Ao69, co69, eo69⟩ := Kd.R_slice HO264.out
                                    (first | subst eo69 | (injection eo69 with f1_ f2_ f3_; have f4_ := f1_.symm; have f5_ := f3_.symm; clear f1_ f2_ f3_; subst f4_; subst f5_))
                                    obtain ⟨Ao70, co70, eo70⟩ := Kd.R_slice HO260.out
                                    (first | subst eo70 | (injection eo70 with f1_ f2_ f3_; have f4_ := f1_.symm; have f5_ := f3_.symm; clear f1_ f2_ f3_; subst f4_; subst f5_))
                                    refine start_ (n := 21) (S := fun w' => w'.cell? ⟨gb239, 0, none⟩ = some (.int .i64 a0_0) ∧ w'.cell? ⟨gb239, 1, none⟩ = some (.int .i64 a0_1) ∧ w'.cell? ⟨gb239, 2, none⟩ = some (.int .i64 a0_2) ∧ w'.cell? ⟨gb239, 3, none⟩ = some (.int .u64 a0_3) ∧ w'.cell? ⟨gb239, 4, none⟩ = some (.int .u64 a0_4) ∧ w'.cell? ⟨gb239, 5, none⟩ = some (.int .u64 a0_5)) (ds := []) #[false, false, false, false, false, false, false, false, false, false, false, false, false, false, false, false, false, false, false, false, false] (by kernel_rfl) rfl rfl ⟨(blk_cell BK239.out 0).trans rfl, (blk_cell BK239.out 1).trans rfl, (blk_cell BK239.out 2).trans rfl, (blk_cell BK239.out 3).trans rfl, (blk_cell BK239.out 4).trans rfl, (blk_cell BK239.out 5).trans rfl⟩ (fun hHeld => ?_); refine with_tabW laws_FnInclusionInTree.tab12 laws_FnInclusionInTree.bits12 (fun HT_ HW_ => ?_)
                                    generalize w67.drew = w68 at HO_13 HO260 HO264 BK239 HB hHeld ⊢
                                    refine pure_ (i := 0) (N := some 120) (v := ?_) (a' := ?_) #[true, false, false, false, false, false, false, false, false, false, false, false, false, false, false, false, false, false, false, false, false] rfl rfl (any_of HT_.out (by kernel_rfl)) (fun _ _ _ h => h) (Or.inl ⟨by rfl, ?_⟩) ?_ ?_
                                    rotate_left
                                    · intro w'
                                      go_simp
                                      with_reducible rfl
                                    rotate_left
                                    · simp only [Act.put, List.setIfInBounds_toArray, List.set_cons_zero, List.set_cons_succ, i64_w, i32_w]
                                      rfl
                                    refine pure_ (i := 1) (N := some 121) (v := ?_) (a' := ?_) #[true, true, false, false, false, false, false, false, false, false, false, false, false, false, false, false, false, false, false, false, false] rfl rfl (any_of HT_.out (by kernel_rfl)) (fun _ _ _ h => h) (Or.inl ⟨by rfl, ?_⟩) ?_ ?_
                                    rotate_left
                                    · intro w'
                                      go_simp
                                      with_reducible rfl
                                    rotate_left
                                    · simp only [Act.put, List.setIfInBounds_toArray, List.set_cons_zero, List.set_cons_succ, i64_w, i32_w]
                                      rfl
                                    refine pure_ (i := 2) (N := some 122) (v := ?_) (a' := ?_) #[true, true, true, false, false, false, false, false, false, false, false, false, false, false, false, false, false, false, false, false, false] rfl rfl (any_of HT_.out (by kernel_rfl)) (fun _ _ _ h => h) (Or.inl ⟨by rfl, ?_⟩) ?_ ?_
                                    rotate_left
                                    · intro w'
                                      go_simp
                                      with_reducible rfl
                                    rotate_left
                                    · simp only [Act.put, List.setIfInBounds_toArray, List.set_cons_zero, List.set_cons_succ, i64_w, i32_w]
                                      rfl
                                    refine pure_ (i := 3) (N := some 123) (v := ?_) (a' := ?_) #[true, true, true, true, false, false, false, false, false, false, false, false, false, false, false, false, false, false, false, false, false] rfl rfl (any_of HT_.out (by kernel_rfl)) (fun _ _ _ h => h) (Or.inl ⟨by rfl, ?_⟩) ?_ ?_
                                    rotate_left
                                    · intro w'
                                      go_simp
                                      with_reducible rfl
                                    rotate_left
                                    · simp only [Act.put, List.setIfInBounds_toArray, List.set_cons_zero, List.set_cons_succ, i64_w, i32_w]
                                      rfl
                                    refine pure_ (i := 4) (N := some 124) (v := ?_) (a' := ?_) #[true, true, true, true, true, false, false, false, false, false, false, false, false, false, false, false, false, false, false, false, false] rfl rfl (any_of HT_.out (by kernel_rfl)) (fun _ _ _ h => h) (Or.inl ⟨by rfl, ?_⟩) ?_ ?_
                                    rotate_left
                                    · intro w'
                                      go_simp
                                      with_reducible rfl
                                    rotate_left
                                    · simp only [Act.put, List.setIfInBounds_toArray, List.set_cons_zero, List.set_cons_succ, i64_w, i32_w]
                                      rfl
                                    refine pure_ (i := 5) (N := some 125) (v := ?_) (a' := ?_) #[true, true, true, true, true, true, false, false, false, false, false, false, false, false, false, false, false, false, false, false, false] rfl rfl (any_of HT_.out (by kernel_rfl)) (fun _ _ _ h => h) (Or.inl ⟨by rfl, ?_⟩) ?_ ?_
                                    rotate_left
                                    · intro w'
                                      go_simp
                                      with_reducible rfl
                                    rotate_left
                                    · simp only [Act.put, List.setIfInBounds_toArray, List.set_cons_zero, List.set_cons_succ, i64_w, i32_w]
                                      rfl
                                    refine pure_ (i := 6) (N := some 126) (v := ?_) (a' := ?_) #[true, true, true, true, true, true, true, false, false, false, false, false, false, false, false, false, false, false, false, false, false] rfl rfl (any_of HT_.out (by kernel_rfl)) (fun _ _ _ h => h) (Or.inl ⟨by rfl, ?_⟩) ?_ ?_
                                    rotate_left
                                    · intro w'
                                      go_simp
                                      with_reducible rfl
                                    rotate_left
                                    · simp only [Act.put, List.setIfInBounds_toArray, List.set_cons_zero, List.set_cons_succ, i64_w, i32_w]
                                      rfl
                                    refine one_ (i := 7) (N := some 127) #[true, true, true, true, true, true, true, true, false, false, false, false, false, false, false, false, false, false, false, false, false] rfl rfl (one_of HT_.out (by kernel_rfl)) (by decide) (fun K hK => ?_)
                                    refine goes_ Try.func8 (by kernel_rfl) rfl #[.slice Ao69 t262.length co69, .slice Ao70 t258.length co70] (by rfl) rfl rfl (by (try simp only [List.map_toArray, List.map_cons, List.map_nil]); first | done | rfl | (simp only [List.length_drop, List.length_take]; rfl)) ?_
                                    with_reducible refine (spec_SameText.calls _ _ t262 _ _ t258 true _ ?side1 ?side2 ?side3 ?side4 A56.out).mono ?_
                                    (case side1 => repeat (first | exact (Kd.R_reads' HO264.out).2.2 | (with_reducible refine Kd.C_alloc ?_ _) | (with_reducible refine Kd.C_drewN ?_ _) | (with_reducible refine Kd.C_drew ?_)))
                                    (case side2 => exact (Kd.R_reads' HO264.out).2.1)
                                    (case side3 => repeat (first | exact (Kd.R_reads' HO260.out).2.2 | (with_reducible refine Kd.C_alloc ?_ _) | (with_reducible refine Kd.C_drewN ?_ _) | (with_reducible refine Kd.C_drew ?_)))
                                    (case side4 => exact (Kd.R_reads' HO260.out).2.1)
                                    rintro e w' ⟨rfl, ⟨nd, rfl⟩⟩
                                    refine ⟨_, rfl, ?_⟩
                                    have q71 : (a3 : Int) ≤ ((l5.length : Int) : Int) := of_decide_eq_true (by first | (with_reducible assumption) | assumption)
                                    obtain ⟨i071, hi071, _, hsz71, _⟩ := info_parts info25
                                    have hroom71 : l5.length ≤ c5 := HC5.out
                                    have hC71 : Kd.C (Kd.slice 5 (Kd.int .u8)) _ A5 l5.length l5 := HR5.out
                                    (try clear hcut33)
                                    (try clear hcut63)
                                    have hcut71 := cut_to (P := Try.prog) 26 25 .i64 Try.underlying26 hi071 A5 l5.length c5 a3 (of_decide_eq_true (by first | (with_reducible assumption) | assumption)) q71 hroom71
                                    have hr71 := Kd.C_take (m := (a3 : Int).toNat) hC71 (by omega)
                                    have hy71 : y267.length = (a3 : Int).toNat := (by rw [Ny267.out, List.length_take]; omega)
                                    rw [← Ny267.out] at hr71
                                    rw [← hy71] at hcut71
                                    have HR270 := Aside0.mk hr71
                                    have HC270 := Aside0.mk (show y267.length ≤ c5 from by omega)
                                    clear hr71 hC71 hroom71 hi071 hsz71
                                    have KY71 := Aside0.mk hy71
                                    clear hy71
                                    replace q71 := eq_true q71
                                    refine hK.out _ _ ⟨(blk_cell BK239.out 0).trans rfl, (blk_cell BK239.out 1).trans rfl, (blk_cell BK239.out 2).trans rfl, (blk_cell BK239.out 3).trans rfl, (blk_cell BK239.out 4).trans rfl, (blk_cell BK239.out 5).trans rfl⟩ (fun hHeld => ?_)
                                    clear hK K
                                    refine norm_ (a' := ?_) ?_ ?_
                                    rotate_left
                                    · show Act.put _ (some 127) _ = _
                                      simp only [Act.put, List.setIfInBounds_toArray, List.set_cons_zero, List.set_cons_succ, i64_w, i32_w]
                                      rfl
                                    refine pure_ (i := 8) (N := some 128) (v := ?_) (a' := ?_) #[true, true, true, true, true, true, true, true, true, false, false, false, false, false, false, false, false, false, false, false, false] rfl rfl (any_of HT_.out (by kernel_rfl)) (fun _ _ _ h => h) (Or.inl ⟨by rfl, ?_⟩) ?_ ?_
                                    rotate_left
                                    · intro w'
                                      go_simp
                                      with_reducible rfl
                                    rotate_left
                                    · simp only [Act.put, List.setIfInBounds_toArray, List.set_cons_zero, List.set_cons_succ, i64_w, i32_w]
                                      rfl
                                    refine pure_ (i := 9) (N := some 129) (v := ?_) (a' := ?_) #[true, true, true, true, true, true, true, true, true, true, false, false, false, false, false, false, false, false, false, false, false] rfl rfl (any_of HT_.out (by kernel_rfl)) (fun _ _ _ h => h) (Or.inl ⟨by rfl, ?_⟩) ?_ ?_
                                    rotate_left
                                    · intro w'
                                      go_simp
                                      with_reducible rfl
                                    rotate_left
                                    · simp only [Act.put, List.setIfInBounds_toArray, List.set_cons_zero, List.set_cons_succ, i64_w, i32_w]
                                      rfl
                                    refine pure_ (i := 10) (N := some 130) (v := ?_) (a' := ?_) #[true, true, true, true, true, true, true, true, true, true, true, false, false, false, false, false, false, false, false, false, false] rfl rfl (any_of HT_.out (by kernel_rfl)) (fun _ _ _ h => h) (Or.inl ⟨by rfl, ?_⟩) ?_ ?_
                                    rotate_left
                                    · intro w'
                                      go_simp
                                      with_reducible rfl
                                    rotate_left
                                    · simp only [Act.put, List.setIfInBounds_toArray, List.set_cons_zero, List.set_cons_succ, i64_w, i32_w]
                                      rfl
                                    refine pure_ (i := 12) (N := some 132) (v := ?_) (a' := ?_) #[true, true, true, true, true, true, true, true, true, true, true, false, true, false, false, false, false, false, false, false, false] rfl rfl (any_of HT_.out (by kernel_rfl)) (fun _ _ _ h => h) (Or.inl ⟨by rfl, ?_⟩) ?_ ?_
                                    rotate_left
                                    · intro w'
                                      go_simp
                                      with_reducible rfl
                                    rotate_left
                                    · simp only [Act.put, List.setIfInBounds_toArray, List.set_cons_zero, List.set_cons_succ, i64_w, i32_w]
                                      rfl
                                    refine pure_ (i := 13) (N := some 133) (v := ?_) (a' := ?_) #[true, true, true, true, true, true, true, true, true, true, true, false, true, true, false, false, false, false, false, false, false] rfl rfl (any_of HT_.out (by kernel_rfl)) (fun _ _ _ h => h) (Or.inl ⟨by rfl, ?_⟩) ?_ ?_
                                    rotate_left
                                    · intro w'
                                      go_simp
                                      with_reducible rfl
                                    rotate_left
                                    · simp only [Act.put, List.setIfInBounds_toArray, List.set_cons_zero, List.set_cons_succ, i64_w, i32_w]
                                      rfl
                                    refine pure_ (i := 14) (N := some 134) (v := ?_) (a' := ?_) #[true, true, true, true, true, true, true, true, true, true, true, false, true, true, true, false, false, false, false, false, false] rfl rfl (any_of HT_.out (by kernel_rfl)) (fun _ _ _ h => h) (Or.inl ⟨by rfl, ?_⟩) ?_ ?_
                                    rotate_left
                                    · intro w'
                                      go_simp
                                      with_reducible rfl
                                    rotate_left
                                    · simp only [Act.put, List.setIfInBounds_toArray, List.set_cons_zero, List.set_cons_succ, i64_w, i32_w]
                                      rfl
                                    refine pure_ (i := 15) (N := some 135) (v := ?_) (a' := ?_) #[true, true, true, true, true, true, true, true, true, true, true, false, true, true, true, true, false, false, false, false, false] rfl rfl (any_of HT_.out (by kernel_rfl)) (fun _ _ _ h => h) (Or.inl ⟨by rfl, ?_⟩) ?_ ?_
                                    rotate_left
                                    · intro w'
                                      go_simp
                                      with_reducible rfl
                                    rotate_left
                                    · simp only [Act.put, List.setIfInBounds_toArray, List.set_cons_zero, List.set_cons_succ, i64_w, i32_w]
                                      rfl
                                    refine pure_ (i := 16) (N := some 136) (v := ?_) (a' := ?_) #[true, true, true, true, true, true, true, true, true, true, true, false, true, true, true, true, true, false, false, false, false] rfl rfl (any_of HT_.out (by kernel_rfl)) (fun _ _ _ h => h) (Or.inl ⟨by rfl, ?_⟩) ?_ ?_
                                    rotate_left
                                    · intro w'
                                      go_simp
                                      with_reducible rfl
                                    rotate_left
                                    · simp only [Act.put, List.setIfInBounds_toArray, List.set_cons_zero, List.set_cons_succ, i64_w, i32_w]
                                      rfl
                                    refine take_ (i := 11) (N := some 131) (v := ?_) (a' := ?_) #[true, true, true, true, true, true, true, true, true, true, true, true, true, true, true, true, true, false, false, false, false] rfl rfl (take_ofW HT_.out HW_.out (by kernel_rfl)) (fun _ _ _ h => h) (Or.inl ⟨by rfl, ?_⟩) hHeld ?_ ?_
                                    rotate_left
                                    · rintro w' ⟨s0, s1, s2, s3, s4, s5⟩
                                      go_simp
                                      with_reducible rfl
                                    rotate_left
                                    · simp only [Act.put, List.setIfInBounds_toArray, List.set_cons_zero, List.set_cons_succ, i64_w, i32_w]
                                      rfl
                                    refine one_ (i := 17) (N := some 137) #[true, true, true, true, true, true, true, true, true, true, true, true, true, true, true, true, true, true, false, false, false] rfl rfl (one_of HT_.out (by kernel_rfl)) (by decide) (fun K hK => ?_)
                                    refine goes_ Try.func9 (by kernel_rfl) rfl #[.agg #[.int .i64 a0_0, .int .i64 a0_1, .int .i64 a0_2, .int .u64 a0_3, .int .u64 a0_4, .int .u64 a0_5], .slice A4 l4.length c4, .slice A5 y267.length c5, .int .u64 a1] (by rfl) rfl rfl (by (try simp only [List.map_toArray, List.map_cons, List.map_nil]); first | done | rfl | (simp only [List.length_drop, List.length_take]; rfl)) ?_
                                    with_reducible refine (impl_ChainInner.calls kj30 a0_0 a0_1 a0_2 a0_3 a0_4 a0_5 _ _ l4 _ _ y267 a1 t271 _ ?side1 ?side2 ?side3 ?side4 A60.out).mono ?_
                                    (case side1 => repeat (first | exact (Kd.C_below HR4.out (by repeat (first | (with_reducible first | exact HB.out | apply below_alloc | apply pw_below_drewN | apply below_drew1 | refine below_set ?_ GE239.out) | exact HB.out))) | (with_reducible refine Kd.C_alloc ?_ _) | (with_reducible refine Kd.C_drewN ?_ _) | (with_reducible refine Kd.C_drew ?_)))
                                    (case side2 => exact HC4.out)
                                    (case side3 => repeat (first | exact (Kd.C_below HR270.out (by repeat (first | (with_reducible first | exact HB.out | apply below_alloc | apply pw_below_drewN | apply below_drew1 | refine below_set ?_ GE239.out) | exact HB.out))) | (with_reducible refine Kd.C_alloc ?_ _) | (with_reducible refine Kd.C_drewN ?_ _) | (with_reducible refine Kd.C_drew ?_)))
                                    (case side4 => exact HC270.out)
                                    rintro e w72 ⟨v272, rfl, ho0, hb⟩
                                    refine ⟨_, rfl, ?_⟩
                                    have n0_ := Aside0.mk (Kd.R_elder' (by (with_reducible repeat (first | apply Kd.R_alloc | apply Kd.R_drewN | apply Kd.R_drew)); exact HO_13.out) (Kd.R_base ho0) hb)
                                    have n1_ := Aside0.mk (Kd.R_elder' (by (with_reducible repeat (first | apply Kd.R_alloc | apply Kd.R_drewN | apply Kd.R_drew)); exact HO260.out) (Kd.R_base ho0) hb)
                                    have n2_ := Aside0.mk (Kd.R_elder' (by (with_reducible repeat (first | apply Kd.R_alloc | apply Kd.R_drewN | apply Kd.R_drew)); exact HO264.out) (Kd.R_base ho0) hb)
                                    have n3_ := Aside0.mk (Kd.R_lower (Kd.R_new' (Kd.R_new' (Kd.R_new' ho0 (Kd.R_lt (by (with_reducible repeat (first | apply Kd.R_alloc | apply Kd.R_drewN | apply Kd.R_drew)); exact HO_13.out))) (Kd.R_lt (by (with_reducible repeat (first | apply Kd.R_alloc | apply Kd.R_drewN | apply Kd.R_drew)); exact HO260.out))) (Kd.R_lt (by (with_reducible repeat (first | apply Kd.R_alloc | apply Kd.R_drewN | apply Kd.R_drew)); exact HO264.out))) (below_size (by repeat (first | (with_reducible first | exact HB.out | apply below_alloc | apply pw_below_drewN | apply below_drew1 | refine below_set ?_ GE239.out) | exact HB.out))))
                                    have n4_ := Aside0.mk (blk_below (g := gb239) (o := .cells #[.int .i64 a0_0, .int .i64 a0_1, .int .i64 a0_2, .int .u64 a0_3, .int .u64 a0_4, .int .u64 a0_5] 24 (0, 0)) (by (with_reducible repeat (first | refine blk_drewN ?_ _ | refine blk_drew ?_ | refine blk_alloc ?_ _)); exact BK239.out) hb)
                                    have n5_ := Aside0.mk (below_step (by repeat (first | (with_reducible first | exact HB.out | apply below_alloc | apply pw_below_drewN | apply below_drew1 | refine below_set ?_ GE239.out) | exact HB.out)) hb)
                                    clear HO_13
                                    clear HO260
                                    clear HO264
                                    clear BK239
                                    clear HB
                                    have HO_13 := n0_
                                    have HO260 := n1_
                                    have HO264 := n2_
                                    have HO273 := n3_
                                    have BK239 := n4_
                                    have HB := n5_
                                    clear n0_ n1_ n2_ n3_ n4_ n5_
                                    (try clear hb)
                                    (try clear hb2)
                                    (try clear hk)
                                    (try clear hi)
                                    (try clear ho0)
                                    obtain ⟨Ao73, co73, eo73⟩ := Kd.R_slice HO273.out
                                    (first | subst eo73 | (injection eo73 with f1_ f2_ f3_; have f4_ := f1_.symm; have f5_ := f3_.symm; clear f1_ f2_ f3_; subst f4_; subst f5_))
                                    refine hK.out _ _ ⟨(blk_cell BK239.out 0).trans rfl, (blk_cell BK239.out 1).trans rfl, (blk_cell BK239.out 2).trans rfl, (blk_cell BK239.out 3).trans rfl, (blk_cell BK239.out 4).trans rfl, (blk_cell BK239.out 5).trans rfl⟩ (fun hHeld => ?_)
                                    clear hK K
                                    refine norm_ (a' := ?_) ?_ ?_
                                    rotate_left
                                    · show Act.put _ (some 137) _ = _
                                      simp only [Act.put, List.setIfInBounds_toArray, List.set_cons_zero, List.set_cons_succ, i64_w, i32_w]
                                      rfl
                                    refine one_ (i := 18) (N := some 138) #[true, true, true, true, true, true, true, true, true, true, true, true, true, true, true, true, true, true, true, false, false] rfl rfl (one_of HT_.out (by kernel_rfl)) (by decide) (fun K hK => ?_)
                                    refine goes_ Try.func8 (by kernel_rfl) rfl #[.slice Ao64 t247.length co64, .slice Ao73 t271.length co73] (by rfl) rfl rfl (by (try simp only [List.map_toArray, List.map_cons, List.map_nil]); first | done | rfl | (simp only [List.length_drop, List.length_take]; rfl)) ?_
                                    with_reducible refine (spec_SameText.calls _ _ t247 _ _ t271 t274 _ ?side1 ?side2 ?side3 ?side4 A61.out).mono ?_
                                    (case side1 => repeat (first | exact (Kd.R_reads' HO_13.out).2.2 | (with_reducible refine Kd.C_alloc ?_ _) | (with_reducible refine Kd.C_drewN ?_ _) | (with_reducible refine Kd.C_drew ?_)))
                                    (case side2 => exact (Kd.R_reads' HO_13.out).2.1)
                                    (case side3 => repeat (first | exact (Kd.R_reads' HO273.out).2.2 | (with_reducible refine Kd.C_alloc ?_ _) | (with_reducible refine Kd.C_drewN ?_ _) | (with_reducible refine Kd.C_drew ?_)))
                                    (case side4 => exact (Kd.R_reads' HO273.out).2.1)
                                    rintro e w' ⟨rfl, ⟨nd, rfl⟩⟩
                                    refine ⟨_, rfl, ?_⟩
                                    refine hK.out _ _ ⟨(blk_cell BK239.out 0).trans rfl, (blk_cell BK239.out 1).trans rfl, (blk_cell BK239.out 2).trans rfl, (blk_cell BK239.out 3).trans rfl, (blk_cell BK239.out 4).trans rfl, (blk_cell BK239.out 5).trans rfl⟩ (fun hHeld => ?_)
                                    clear hK K
                                    refine norm_ (a' := ?_) ?_ ?_
                                    rotate_left
                                    · show Act.put _ (some 138) _ = _
                                      simp only [Act.put, List.setIfInBounds_toArray, List.set_cons_zero, List.set_cons_succ, i64_w, i32_w]
                                      rfl
                                    refine pure_ (i := 19) (N := some 139) (v := ?_) (a' := ?_) #[true, true, true, true, true, true, true, true, true, true, true, true, true, true, true, true, true, true, true, true, false] rfl rfl (any_of HT_.out (by kernel_rfl)) (fun _ _ _ h => h) (Or.inl ⟨by rfl, ?_⟩) ?_ ?_
                                    rotate_left
                                    · intro w'
                                      go_simp
                                      with_reducible rfl
                                    rotate_left
                                    · simp only [Act.put, List.setIfInBounds_toArray, List.set_cons_zero, List.set_cons_succ, i64_w, i32_w]
                                      rfl
                                    refine pure_ (i := 20) (N := some 12) (v := ?_) (a' := ?_) #[true, true, true, true, true, true, true, true, true, true, true, true, true, true, true, true, true, true, true, true, true] rfl rfl (any_of HT_.out (by kernel_rfl)) (fun _ _ _ h => h) (Or.inl ⟨by rfl, ?_⟩) ?_ ?_
                                    rotate_left
                                    · intro w'
                                      go_simp
                                      with_reducible rfl
                                    rotate_left
                                    · simp only [Act.put, List.setIfInBounds_toArray, List.set_cons_zero, List.set_cons_succ, i64_w, i32_w]
                                      rfl
                                    refine done_ (done_of HT_.out (by kernel_rfl)) ?_
                                    try go_wp2
                                    go_ret
                                    exact ⟨by first | rfl | (simp [errW_none, errW_some] <;> rfl) | (simp only [← hji25, ← hji47, ← hji52]; first | rfl | (simp [errW_none, errW_some] <;> rfl)) | (simp [*, errW_none, errW_some] <;> rfl), by repeat (first | (with_reducible first | exact HB.out | apply below_alloc | apply pw_below_drewN | apply below_drew1 | refine below_set ?_ GE239.out) | exact HB.out)⟩
                                  · replace c57 := Bool.eq_false_iff.mpr c57
                                    subst c57
                                    have H1 : (none) = some r := by rw [if_neg (show ¬ (false = true) by decide)] at H; exact H
                                    clear H
                                    have H := H1
                                    clear H1
                                    exact absurd H (by simp)
                                · replace c55 := Bool.eq_false_iff.mpr c55
                                  subst c55
                                  have H1 : (none) = some r := by rw [if_neg (show ¬ (false = true) by decide)] at H; exact H
                                  clear H
                                  have H := H1
                                  clear H1
                                  exact absurd H (by simp)
                              · replace c54 := Bool.eq_false_iff.mpr c54
                                subst c54
                                have H1 : (none) = some r := by rw [if_neg (show ¬ (false = true) by decide)] at H; exact H
                                clear H
                                have H := H1
                                clear H1
                                exact absurd H (by simp)
                            · rw [if_neg c49] at H
                              exact absurd H (by simp)
                          · rw [if_neg c46] at H
                            exact absurd H (by simp)
                  · replace c30 := Bool.eq_false_iff.mpr c30
                    subst c30
                    have H1 : (none) = some r := by rw [if_neg (show ¬ (false = true) by decide)] at H; exact H
                    clear H
                    have H := H1
                    clear H1
                    exact absurd H (by simp)
                · rw [if_neg c28] at H
                  exact absurd H (by simp)
              · rw [if_neg c24] at H
                exact absurd H (by simp)

end Go.Proofs.Ytbfhmcgiamnliaa.PAll
