-- Written by a program of this session (wip/tools)
import Derived.Test.YtielnphmcaecdaaDoorQTTExtVerE
import Derived.Test.YtielnphmcaecdaaDoorQTTTreeMem
set_option maxHeartbeats 8000000
set_option maxRecDepth 100000
set_option linter.unusedVariables false
set_option linter.unusedSimpArgs false
namespace Go.Proofs.YtielnphmcaecdaaDoor.PAll
open Go.IntWalk Go.RowKit Go.Proofs.YtielnphmcaecdaaDoorW.PrintWords Go.Proofs.YtielnphmcaecdaaDoorW.PrintLast Go.Proofs.YtielnphmcaecdaaDoorW.PrintMore
def impl_VerifyConsistency.f (k : Nat) (a0 a1 a2 a3 a4 a5 x1 x2 : Int) (l : List (List Int)) (r1 r2 : List Int) : Option (Int × List Int) :=
 if r1.length < 140737488355328 ∧ r2.length < 140737488355328 then (impl_texts.f k l).bind fun x => if 1 ≤ x1 ∧ x1 ≤ x2 ∧ x2 < 18446744073709551616 then (verC k (impl_toy_HashChildren.f k a0 a1 a2 a3 a4 a5) x1 x2 x r1 r2).bind fun o => if o.2.length < 140737488355328 then some o else none else none else none
theorem impl_VerifyConsistency.calls (k : Nat) (a0 a1 a2 a3 a4 a5 x1 x2 : Int) (A : Option Addr) (c : Nat) (l : List (List Int)) (A1 : Option Addr) (c1 : Nat) (r1 : List Int) (A2 : Option Addr) (c2 : Nat) (r2 : List Int) (q1 : Int) (q2 : List Int) (w : World) (hG : Glob w)
 (hr : Kd.C (Kd.slice 5 (Kd.int .u8)) w A l.length l) (hc : l.length ≤ c) (hr1 : Kd.C (Kd.int .u8) w A1 r1.length r1) (hc1 : r1.length ≤ c1) (hr2 : Kd.C (Kd.int .u8) w A2 r2.length r2) (hc2 : r2.length ≤ c2)
 (h : impl_VerifyConsistency.f k a0 a1 a2 a3 a4 a5 x1 x2 l r1 r2 = some (q1, q2)) :
 Calls Tryd.prog 36 #[.agg #[.int .i64 a0, .int .i64 a1, .int .i64 a2, .int .u64 a3, .int .u64 a4, .int .u64 a5], .int .u64 x1, .int .u64 x2, .slice A l.length c, .slice A1 r1.length c1, .slice A2 r2.length c2] w fun e w' => ∃ v0_, e = .returned (.tuple #[.int .i64 q1, v0_]) ∧ Kd.R (Kd.int .u8) 5 w' w.heap.size (fun _ => True) v0_ q2 ∧ Below w.heap.size w w' := by
 unfold impl_VerifyConsistency.f at h
 by_cases hl : r1.length < 140737488355328 ∧ r2.length < 140737488355328
 case neg => rw [if_neg hl] at h; cases h
 rw [if_pos hl] at h
 obtain ⟨x, hx, h⟩ := Option.bind_eq_some_iff.mp h
 by_cases hs : 1 ≤ x1 ∧ x1 ≤ x2 ∧ x2 < 18446744073709551616
 case neg => rw [if_neg hs] at h; cases h
 rw [if_pos hs] at h
 obtain ⟨o, ho, h⟩ := Option.bind_eq_some_iff.mp h
 by_cases hol : o.2.length < 140737488355328
 case neg => rw [if_neg hol] at h; cases h
 rw [if_pos hol] at h
 obtain rfl := Option.some.inj h
 have HR0 := Aside0.mk hr
 have HC0 := Aside0.mk hc
 have HR1 := Aside0.mk hr1
 have HC1 := Aside0.mk hc1
 have HR2 := Aside0.mk hr2
 have HC2 := Aside0.mk hc2
 have HXX := Aside0.mk hx
 have HS := Aside0.mk hs
 have HO := Aside0.mk ho
 have HOL := Aside0.mk hol
 have HL1 := Aside0.mk hl.1
 have HL2 := Aside0.mk hl.2
 have HG := Aside0.mk hG
 clear hr hc hr1 hc1 hr2 hc2 hx hs ho hol hl h hG
 go_enter Tryd.func36, Tryd.ntmps36
 go_wp2
 have bk := blk_new w (Obj.cells #[.int .i64 a0, .int .i64 a1, .int .i64 a2, .int .u64 a3, .int .u64 a4, .int .u64 a5] 24)
 have HBw := Aside0.mk (below_alloc (Below.refl w.heap.size w) (Obj.cells #[.int .i64 a0, .int .i64 a1, .int .i64 a2, .int .u64 a3, .int .u64 a4, .int .u64 a5] 24))
 generalize w.alloc (Obj.cells #[.int .i64 a0, .int .i64 a1, .int .i64 a2, .int .u64 a3, .int .u64 a4, .int .u64 a5] 24) = W0 at bk HBw ⊢
 have y0 : W0.cell? ⟨w.heap.size, 0, none⟩ = some (.int .i64 a0) := blk_cell bk 0
 have y1 : W0.cell? ⟨w.heap.size, 1, none⟩ = some (.int .i64 a1) := blk_cell bk 1
 have y2 : W0.cell? ⟨w.heap.size, 2, none⟩ = some (.int .i64 a2) := blk_cell bk 2
 have y3 : W0.cell? ⟨w.heap.size, 3, none⟩ = some (.int .u64 a3) := blk_cell bk 3
 have y4 : W0.cell? ⟨w.heap.size, 4, none⟩ = some (.int .u64 a4) := blk_cell bk 4
 have y5 : W0.cell? ⟨w.heap.size, 5, none⟩ = some (.int .u64 a5) := blk_cell bk 5
 have HLT := Aside0.mk (show w.heap.size < W0.heap.size from (Array.getElem?_eq_some_iff.1 bk).1)
 have HBn := Aside0.mk (Below.refl W0.heap.size W0)
 have HL := Aside0.mk (Below.refl W0.heap.size W0)
 replace HG := Aside0.mk (HG.out.below HBw.out)
 clear bk
 go_region_held_law (fun w' => w'.cell? ⟨w.heap.size, 0, none⟩ = some (.int .i64 a0) ∧ w'.cell? ⟨w.heap.size, 1, none⟩ = some (.int .i64 a1) ∧ w'.cell? ⟨w.heap.size, 2, none⟩ = some (.int .i64 a2) ∧ w'.cell? ⟨w.heap.size, 3, none⟩ = some (.int .u64 a3) ∧ w'.cell? ⟨w.heap.size, 4, none⟩ = some (.int .u64 a4) ∧ w'.cell? ⟨w.heap.size, 5, none⟩ = some (.int .u64 a5)) (first | exact ⟨v0_, v1_, v2_, v3_, v4_, v5_⟩ | exact ⟨y0, y1, y2, y3, y4, y5⟩ | go_keep) (first
  | (
   refine append_text_step ?hw (.tmp 21) (.tmp 22) rfl _ A1 r1.length c1 r1 rfl rfl ?aC ?aL ?_
   (case hw => simp [Region.wanted])
   (case aC => exact Kd.C_below HR1.out (by repeat (first | exact HBw.out | apply below_alloc | apply Below.drew | apply pw_below_drewN | apply below_drew)))
   (case aL => exact Nat.le_of_lt HL1.out)
   intro u1 wq hT hB
   have HT1 := Aside0.mk hT
   have hmv := below_step (by repeat (first | exact HL.out | apply below_alloc | apply Below.drew | apply pw_below_drewN | apply below_drew)) hB
   have HBn := Aside0.mk (HBn.out.trans (hmv.mono HBn.out.size))
   have HBw := Aside0.mk (HBw.out.trans (hmv.mono HBw.out.size))
   have v0_ := (HBn.out.cell (p := ⟨w.heap.size, 0, none⟩) HLT.out).trans y0
   have v1_ := (HBn.out.cell (p := ⟨w.heap.size, 1, none⟩) HLT.out).trans y1
   have v2_ := (HBn.out.cell (p := ⟨w.heap.size, 2, none⟩) HLT.out).trans y2
   have v3_ := (HBn.out.cell (p := ⟨w.heap.size, 3, none⟩) HLT.out).trans y3
   have v4_ := (HBn.out.cell (p := ⟨w.heap.size, 4, none⟩) HLT.out).trans y4
   have v5_ := (HBn.out.cell (p := ⟨w.heap.size, 5, none⟩) HLT.out).trans y5
   try have HX := Aside0.mk (Kd.C_below HX.out hmv)
   try have HT2 := Aside0.mk (HT2.out.below hmv)
   have HG := Aside0.mk (HG.out.below hmv)
   have HL := Aside0.mk (Below.refl wq.heap.size wq)
   clear hT hB hmv)
  | (
   refine append_text_step ?hw (.tmp 24) (.tmp 25) rfl _ A2 r2.length c2 r2 rfl rfl ?aC ?aL ?_
   (case hw => simp [Region.wanted])
   (case aC => exact Kd.C_below HR2.out (by repeat (first | exact HBw.out | apply below_alloc | apply Below.drew | apply pw_below_drewN | apply below_drew)))
   (case aL => exact Nat.le_of_lt HL2.out)
   intro u2 wq hT hB
   have HT2 := Aside0.mk hT
   have hmv := below_step (by repeat (first | exact HL.out | apply below_alloc | apply Below.drew | apply pw_below_drewN | apply below_drew)) hB
   have HBn := Aside0.mk (HBn.out.trans (hmv.mono HBn.out.size))
   have HBw := Aside0.mk (HBw.out.trans (hmv.mono HBw.out.size))
   have v0_ := (HBn.out.cell (p := ⟨w.heap.size, 0, none⟩) HLT.out).trans y0
   have v1_ := (HBn.out.cell (p := ⟨w.heap.size, 1, none⟩) HLT.out).trans y1
   have v2_ := (HBn.out.cell (p := ⟨w.heap.size, 2, none⟩) HLT.out).trans y2
   have v3_ := (HBn.out.cell (p := ⟨w.heap.size, 3, none⟩) HLT.out).trans y3
   have v4_ := (HBn.out.cell (p := ⟨w.heap.size, 4, none⟩) HLT.out).trans y4
   have v5_ := (HBn.out.cell (p := ⟨w.heap.size, 5, none⟩) HLT.out).trans y5
   try have HX := Aside0.mk (Kd.C_below HX.out hmv)
   try have HT1 := Aside0.mk (HT1.out.below hmv)
   have HG := Aside0.mk (HG.out.below hmv)
   have HL := Aside0.mk (Below.refl wq.heap.size wq)
   clear hT hB hmv)
  | (
   go_simp
   go_at_call 45
   refine (impl_texts.calls k A c l x _ ?s1 HC0.out HXX.out).mono ?_
   (case s1 => exact Kd.C_below HR0.out (by repeat (first | exact HBw.out | apply below_alloc | apply Below.drew | apply pw_below_drewN | apply below_drew)))
   rintro e wq ⟨v3, rfl, hS3, hB⟩
   obtain ⟨Ax, cx, rfl⟩ := Kd.S_slice hS3
   obtain ⟨_, hcx, hCx⟩ := Kd.S_reads' hS3
   have HCX := Aside0.mk hcx
   have HX := Aside0.mk hCx
   clear hS3 hcx hCx
   have hmv := below_step (by repeat (first | exact HL.out | apply below_alloc | apply Below.drew | apply pw_below_drewN | apply below_drew)) hB
   have HBn := Aside0.mk (HBn.out.trans (hmv.mono HBn.out.size))
   have HBw := Aside0.mk (HBw.out.trans (hmv.mono HBw.out.size))
   have v0_ := (HBn.out.cell (p := ⟨w.heap.size, 0, none⟩) HLT.out).trans y0
   have v1_ := (HBn.out.cell (p := ⟨w.heap.size, 1, none⟩) HLT.out).trans y1
   have v2_ := (HBn.out.cell (p := ⟨w.heap.size, 2, none⟩) HLT.out).trans y2
   have v3_ := (HBn.out.cell (p := ⟨w.heap.size, 3, none⟩) HLT.out).trans y3
   have v4_ := (HBn.out.cell (p := ⟨w.heap.size, 4, none⟩) HLT.out).trans y4
   have v5_ := (HBn.out.cell (p := ⟨w.heap.size, 5, none⟩) HLT.out).trans y5
   try have HT1 := Aside0.mk (HT1.out.below hmv)
   try have HT2 := Aside0.mk (HT2.out.below hmv)
   have HG := Aside0.mk (HG.out.below hmv)
   have HL := Aside0.mk (Below.refl wq.heap.size wq)
   clear hB hmv)
  | (
   go_simp
   go_at_call 75
   obtain ⟨B1, d1, e1, hd1, hD1⟩ := HT1.out
   obtain ⟨B2, d2, e2, hd2, hD2⟩ := HT2.out
   subst e1 e2
   refine (verifyCons.calls k a0 a1 a2 a3 a4 a5 x1 x2 Ax cx x B1 d1 r1 B2 d2 r2 (q1, q2) _ ?s0 ?s1 HCX.out ?s2 hd1 ?s3 hd2 HS.out.1 HS.out.2.1 HS.out.2.2 HO.out).mono ?_
   (case s0 => exact HG.out.below (by repeat (first | exact HL.out | apply below_alloc | apply Below.drew | apply pw_below_drewN | apply below_drew)))
   (case s1 => exact Kd.C_below HX.out (by repeat (first | exact HL.out | apply below_alloc | apply Below.drew | apply pw_below_drewN | apply below_drew)))
   (case s2 => exact Kd.C_below hD1 (by repeat (first | exact HL.out | apply below_alloc | apply Below.drew | apply pw_below_drewN | apply below_drew)))
   (case s3 => exact Kd.C_below hD2 (by repeat (first | exact HL.out | apply below_alloc | apply Below.drew | apply pw_below_drewN | apply below_drew)))
   rintro e wq ⟨v4, rfl, hV4, hB⟩
   have HV4 := Aside0.mk hV4
   clear hV4 hd1 hD1 hd2 hD2 HT1 HT2
   have hmv := below_step (by repeat (first | exact HL.out | apply below_alloc | apply Below.drew | apply pw_below_drewN | apply below_drew)) hB
   have HBn := Aside0.mk (HBn.out.trans (hmv.mono HBn.out.size))
   have HBw := Aside0.mk (HBw.out.trans (hmv.mono HBw.out.size))
   have v0_ := (HBn.out.cell (p := ⟨w.heap.size, 0, none⟩) HLT.out).trans y0
   have v1_ := (HBn.out.cell (p := ⟨w.heap.size, 1, none⟩) HLT.out).trans y1
   have v2_ := (HBn.out.cell (p := ⟨w.heap.size, 2, none⟩) HLT.out).trans y2
   have v3_ := (HBn.out.cell (p := ⟨w.heap.size, 3, none⟩) HLT.out).trans y3
   have v4_ := (HBn.out.cell (p := ⟨w.heap.size, 4, none⟩) HLT.out).trans y4
   have v5_ := (HBn.out.cell (p := ⟨w.heap.size, 5, none⟩) HLT.out).trans y5
   try have HX := Aside0.mk (Kd.C_below HX.out hmv)
   try have HT1 := Aside0.mk (HT1.out.below hmv)
   try have HT2 := Aside0.mk (HT2.out.below hmv)
   have HG := Aside0.mk (HG.out.below hmv)
   have HL := Aside0.mk (Below.refl wq.heap.size wq)
   clear hB hmv)
  | (
   go_simp
   go_at_call 74
   refine (verdict.calls (q1, q2) _ _ ?s0 HOL.out).mono ?_
   (case s0 => exact HV4.out)
   rintro e wq ⟨v5, rfl, hR5, hB⟩
   have HR5 := Aside0.mk (Kd.R_lower hR5 HBw.out.size)
   have hmv := below_step (by repeat (first | exact HL.out | apply below_alloc | apply Below.drew | apply pw_below_drewN | apply below_drew)) hB
   have HBn := Aside0.mk (HBn.out.trans (hmv.mono HBn.out.size))
   have HBw := Aside0.mk (HBw.out.trans (hmv.mono HBw.out.size))
   have v0_ := (HBn.out.cell (p := ⟨w.heap.size, 0, none⟩) HLT.out).trans y0
   have v1_ := (HBn.out.cell (p := ⟨w.heap.size, 1, none⟩) HLT.out).trans y1
   have v2_ := (HBn.out.cell (p := ⟨w.heap.size, 2, none⟩) HLT.out).trans y2
   have v3_ := (HBn.out.cell (p := ⟨w.heap.size, 3, none⟩) HLT.out).trans y3
   have v4_ := (HBn.out.cell (p := ⟨w.heap.size, 4, none⟩) HLT.out).trans y4
   have v5_ := (HBn.out.cell (p := ⟨w.heap.size, 5, none⟩) HLT.out).trans y5
   try have HX := Aside0.mk (Kd.C_below HX.out hmv)
   try have HT1 := Aside0.mk (HT1.out.below hmv)
   try have HT2 := Aside0.mk (HT2.out.below hmv)
   have HG := Aside0.mk (HG.out.below hmv)
   clear hR5 hB hmv))
 all_goals first
  | (go_step; go_wp2; go_ret2; exact ⟨_, rfl, HR5.out, HBw.out⟩)
  | (go_step; go_wp2; refine ⟨rfl, _, results_tmp2 (fn := Tryd.f36) rfl _ _ _, ?_⟩; exact ⟨_, rfl, HR5.out, HBw.out⟩)
  | (go_wp2; go_ret2; exact ⟨_, rfl, HR5.out, HBw.out⟩)
  | (go_wp2; refine ⟨rfl, _, results_tmp2 (fn := Tryd.f36) rfl _ _ _, ?_⟩; exact ⟨_, rfl, HR5.out, HBw.out⟩)
end Go.Proofs.YtielnphmcaecdaaDoor.PAll
namespace Go.Proofs.YtielnphmcaecdaaDoor.PAll
open Go.RowKit Go.Proofs.YtielnphmcaecdaaDoorW.PrintWords Go.Proofs.YtielnphmcaecdaaDoorW.PrintLast Go.Proofs.YtielnphmcaecdaaDoorW.PrintMore
attribute [local go_sem] max2_int min2_int max_two min_two max_three min_three max_four min_four   -- for this text's walks alone
theorem eqA49 (d : Nat) (w : World) (x0 y0 : Int) (x1 y1 : Int) :
 (Op.equalIn (d + 2) 49 (.agg #[.int .u64 x0, .int .u64 x1]) (.agg #[.int .u64 y0, .int .u64 y1])).run Tryd.prog w = .ok (x0 == y0 && (x1 == y1)) w := by
 refine eqA_of Tryd.underlying49 (by kernel_rfl) ?_
 refine eqf_cons (by rfl) (by go_simp; rfl) (by go_simp; rfl) (by go_simp) ?_
 exact eqf_last (by rfl) (by go_simp; rfl) (by go_simp; rfl) (by go_simp)
end Go.Proofs.YtielnphmcaecdaaDoor.PAll
