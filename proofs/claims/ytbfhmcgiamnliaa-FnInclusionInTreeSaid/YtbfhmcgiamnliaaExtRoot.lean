import Derived.Test.YtbfhmcgiamnliaaExtChains
import Derived.Test.YtbfhmcgiamnliaaExtRange
import Derived.Test.YtbfhmcgiamnliaaPAllx9
namespace Go.Proofs.Ytbfhmcgiamnliaa.PAll
open Go.RowKit Go.Proofs.YtbfhmcgiamnliaaW.PrintWords Go.Proofs.YtbfhmcgiamnliaaW.PrintLast Go.Proofs.YtbfhmcgiamnliaaW.PrintMore
set_option linter.unusedVariables false
theorem methSize (a0 a1 a2 a3 a4 a5 : Int) (w : World) : (method 209 44 (.agg #[.int .i64 a0, .int .i64 a1, .int .i64 a2, .int .u64 a3, .int .u64 a4, .int .u64 a5]) "Size").run Try.prog w = .ok (60, .agg #[.int .i64 a0, .int .i64 a1, .int .i64 a2, .int .u64 a3, .int .u64 a4, .int .u64 a5]) w := by kernel_rfl
set_option maxHeartbeats 4000000 in
theorem toySize.calls (a0 a1 a2 a3 a4 a5 : Int) (w : World) : Calls Try.prog 60 #[.agg #[.int .i64 a0, .int .i64 a1, .int .i64 a2, .int .u64 a3, .int .u64 a4, .int .u64 a5]] w fun e w' => e = .returned (.int .i64 a1) ∧ Below w.heap.size w w' := by
  go_enter Try.func60, Try.ntmps60
  go_wp2
  go_ret
  exact ⟨rfl, by repeat (first | exact Below.refl _ _ | apply below_alloc | apply pw_below_drewN | apply below_drew1)⟩
set_option maxHeartbeats 8000000 in
set_option maxRecDepth 100000 in
/-- The root that a path leads to, where there is one. -/
theorem rootFrom.calls (k : Nat) (a0 a1 a2 a3 a4 a5 : Int) (v : Value) (s : List Int) (A : Option Addr) (c : Nat) (l : List (List Int)) (idx size : Int) (m b : Int) (t r : List Int) (w : World) (B : Nat) (hB : B ≤ w.heap.size) (hs : Kd.R (Kd.int .u8) 5 w B (fun _ => True) v s) (hr : Kd.C (Kd.slice 5 (Kd.int .u8)) w A l.length l) (hc : l.length ≤ c)
    (h1 : idx < size) (h2 : (s.length : Int) = a1) (hd : proof_decompInclProof.f k idx size = some (m, b)) (h0 : 0 ≤ m) (h0b : 0 ≤ b) (hl : (l.length : Int) = m + b)
    (hu : up_ (impl_toy_HashChildren.f k a0 a1 a2 a3 a4 a5) idx (l.take m.toNat) 0 s = some t) (hv : upB_ (impl_toy_HashChildren.f k a0 a1 a2 a3 a4 a5) (l.drop m.toNat) t = some r) :
    Calls Try.prog 27 #[.iface 44 (.agg #[.int .i64 a0, .int .i64 a1, .int .i64 a2, .int .u64 a3, .int .u64 a4, .int .u64 a5]), .int .u64 idx, .int .u64 size, v, .slice A l.length c] w fun e w' => ∃ v0_, e = .returned (.tuple #[v0_, .nilIface]) ∧ Kd.R (Kd.int .u8) 5 w' B (fun _ => True) v0_ r ∧ Below w.heap.size w w' := by
  obtain ⟨As, cs, rfl⟩ := Kd.R_slice hs
  have HR := Aside0.mk hr
  have HC := Aside0.mk hc
  have HS := Aside0.mk hs
  have HD := Aside0.mk hd
  have HL := Aside0.mk hl
  have HU := Aside0.mk hu
  have HV := Aside0.mk hv
  have HBB := Aside0.mk hB
  have hmax : l.length ≤ 9223372036854775807 := hr.2.1
  have hm : m.toNat ≤ l.length := by omega
  have hmi : m ≤ (l.length : Int) := by omega
  have g1 : decide (size ≤ idx) = false := decide_eq_false (by omega)
  have g2 : ((s.length : Int) != a1) = false := bne_eq_false_iff_eq.mpr h2
  have g3 : ((l.length : Int) != m + b) = false := bne_eq_false_iff_eq.mpr (by omega)
  have hmb : m + b ≤ 9223372036854775807 := by omega
  obtain ⟨i0, hi0, _, hsz, _⟩ := info_parts info25
  have hcut1 := cut_to (P := Try.prog) 26 25 .i64 Try.underlying26 hi0 A l.length c m h0 hmi hc
  have hcut2 := cut_from (P := Try.prog) 26 25 .i64 Try.underlying26 hi0 1 hsz A l.length c m h0 hmi
  have hr1 := Kd.C_take (m := m.toNat) hr hm
  have hr2 := Kd.C_drop (m := m.toNat) (c := c) hr hm hc
  have ht1 : (l.take m.toNat).length = m.toNat := by rw [List.length_take]; omega
  have ht2 : (l.drop m.toNat).length = l.length - m.toNat := by rw [List.length_drop]
  have hc1 : (l.take m.toNat).length ≤ c := by omega
  have hc2 : (l.drop m.toNat).length ≤ c - m.toNat := by omega
  obtain ⟨x1, hx1⟩ : ∃ x1, x1 = l.take m.toNat := ⟨_, rfl⟩
  obtain ⟨x2, hx2⟩ : ∃ x2, x2 = l.drop m.toNat := ⟨_, rfl⟩
  obtain ⟨A2, hA2⟩ : ∃ A2, A2 = (if c = m.toNat then A else (A : Option Addr).map (·.add (m.toNat * 1))) := ⟨_, rfl⟩
  obtain ⟨c2, hcc2⟩ : ∃ c2, c2 = c - m.toNat := ⟨_, rfl⟩
  rw [← hx1] at hr1 ht1 hc1 HU
  rw [← hx2] at hr2 ht2 hc2 HV
  replace hr2 : Kd.C (Kd.slice 5 (Kd.int .u8)) w A2 x2.length x2 := by rw [hA2]; exact hr2
  rw [← hA2, ← ht2, ← hcc2] at hcut2
  rw [← ht1] at hcut1
  rw [← hcc2] at hc2
  have HR1 := Aside0.mk hr1
  have HR2 := Aside0.mk hr2
  have HC1 := Aside0.mk hc1
  have HC2 := Aside0.mk hc2
  have HT1 := Aside0.mk ht1
  clear hr hc hs hd hl hu hv hB hr1 hr2 hc1 hc2 hx1 hx2 hA2 hcc2 ht2 ht1 h1 h2 hi0 hsz
  have hme := methSize a0 a1 a2 a3 a4 a5
  go_enter Try.func27, Try.ntmps27
  go_wp2_with (fail)
  refine (toySize.calls a0 a1 a2 a3 a4 a5 _).mono ?_
  rintro e w1 ⟨rfl, hb1⟩
  have HB1 := Aside0.mk hb1
  clear hb1
  dsimp only
  go_wp2_with (fail)
  refine (proof_decompInclProof.calls k idx size m b _ HD.out).mono ?_
  rintro e w2 ⟨rfl, hd2⟩
  obtain ⟨⟨nd, rfl⟩⟩ := hd2
  dsimp only
  go_wp2_with (fail)
  refine (chainInner.calls k a0 a1 a2 a3 a4 a5 _ s A c x1 idx t _ B ?b1 ?b2 ?b3 HC1.out HU.out).mono ?_
  case b1 => exact Nat.le_trans HBB.out HB1.out.size
  case b2 => exact Kd.R_drewN (Kd.R_below HS.out HB1.out) _
  case b3 => exact Kd.C_drewN (Kd.C_below HR1.out HB1.out) _
  rintro e w3 ⟨v3, rfl, hR3, hb3⟩
  have HR3 := Aside0.mk hR3
  have HB3 := Aside0.mk ((pw_below_drewN HB1.out nd).trans (hb3.mono HB1.out.size))
  clear hR3 hb3
  dsimp only
  go_wp2_with (fail)
  refine (chainBorder.calls k a0 a1 a2 a3 a4 a5 v3 t A2 c2 x2 r _ B ?b1 ?b2 ?b3 HC2.out HV.out).mono ?_
  case b1 => exact Nat.le_trans HBB.out HB3.out.size
  case b2 => exact HR3.out
  case b3 => exact Kd.C_below HR2.out HB3.out
  rintro e w4 ⟨v4, rfl, hR4, hb4⟩
  have HR4 := Aside0.mk hR4
  have HB4 := Aside0.mk (HB3.out.trans (hb4.mono HB3.out.size))
  clear hR4 hb4
  dsimp only
  go_wp2
  go_ret2
  exact ⟨_, rfl, HR4.out, HB4.out⟩
/-- The root that the thin package tells, where there is one. -/
def impl_RootOfInclusion.f (k : Nat) (a0 a1 a2 a3 a4 a5 idx size : Int) (s : List Int) (l : List (List Int)) : Option (List Int × Bool) :=
  if s.length < 140737488355328 then (impl_texts.f k l).bind fun x => if idx < size then (if (s.length : Int) = a1 then (proof_decompInclProof.f k idx size).bind fun p => if 0 ≤ p.1 ∧ 0 ≤ p.2 ∧ (x.length : Int) = p.1 + p.2 then (up_ (impl_toy_HashChildren.f k a0 a1 a2 a3 a4 a5) idx (x.take p.1.toNat) 0 s).bind fun t => (upB_ (impl_toy_HashChildren.f k a0 a1 a2 a3 a4 a5) (x.drop p.1.toNat) t).bind fun r => some (r, true) else none else none) else none else none
theorem impl_RootOfInclusion.mono : ∀ a0 a1 a2 a3 a4 a5 idx size s l k, LeO (impl_RootOfInclusion.f k a0 a1 a2 a3 a4 a5 idx size s l) (impl_RootOfInclusion.f (k + 1) a0 a1 a2 a3 a4 a5 idx size s l) := by
  intro a0 a1 a2 a3 a4 a5 idx size s l k
  unfold impl_RootOfInclusion.f
  refine LeO.ite (LeO.bind (impl_texts.mono _ _) (fun x => LeO.ite (LeO.ite (LeO.bind (proof_decompInclProof.mono _ _ _) (fun p => LeO.ite (LeO.bind ?_ (fun t => LeO.bind ?_ (fun r => LeO.refl _))) (LeO.refl _))) (LeO.refl _)) (LeO.refl _))) (LeO.refl _)
  · exact up_mono (fun a b => impl_toy_HashChildren.mono _ _ _ _ _ _ _ _ _) _ _ _ _
  · exact upB_mono (fun a b => impl_toy_HashChildren.mono _ _ _ _ _ _ _ _ _) _ _
set_option maxHeartbeats 8000000 in
set_option maxRecDepth 100000 in
theorem impl_RootOfInclusion.calls (k : Nat) (a0 a1 a2 a3 a4 a5 idx size : Int) (A1 : Option Addr) (c1 : Nat) (s : List Int) (A2 : Option Addr) (c2 : Nat) (l : List (List Int)) (r : List Int) (r1 : Bool) (w : World) (hr1 : Kd.C (Kd.int .u8) w A1 s.length s) (hc1 : s.length ≤ c1) (hr2 : Kd.C (Kd.slice 5 (Kd.int .u8)) w A2 l.length l) (hc2 : l.length ≤ c2) (h : impl_RootOfInclusion.f k a0 a1 a2 a3 a4 a5 idx size s l = some (r, r1)) :
    Calls Try.prog 17 #[.agg #[.int .i64 a0, .int .i64 a1, .int .i64 a2, .int .u64 a3, .int .u64 a4, .int .u64 a5], .int .u64 idx, .int .u64 size, .slice A1 s.length c1, .slice A2 l.length c2] w fun e w' => ∃ v0_, e = .returned (.tuple #[v0_, .bool r1]) ∧ Kd.R (Kd.int .u8) 5 w' w.heap.size (fun _ => True) v0_ r ∧ Below w.heap.size w w' := by
  unfold impl_RootOfInclusion.f at h
  by_cases hlim : s.length < 140737488355328
  case neg => rw [if_neg hlim] at h; cases h
  rw [if_pos hlim] at h
  obtain ⟨x, hx, h⟩ := Option.bind_eq_some_iff.mp h
  by_cases hi : idx < size
  case neg => rw [if_neg hi] at h; cases h
  rw [if_pos hi] at h
  by_cases hs1 : (s.length : Int) = a1
  case neg => rw [if_neg hs1] at h; cases h
  rw [if_pos hs1] at h
  obtain ⟨⟨m, b⟩, hd, h⟩ := Option.bind_eq_some_iff.mp h
  dsimp only at h
  by_cases hp : 0 ≤ m ∧ 0 ≤ b ∧ (x.length : Int) = m + b
  case neg => rw [if_neg hp] at h; cases h
  rw [if_pos hp] at h
  obtain ⟨t, ht, h⟩ := Option.bind_eq_some_iff.mp h
  obtain ⟨r', hr', h⟩ := Option.bind_eq_some_iff.mp h
  have h := Option.some.inj h
  simp only [Prod.mk.injEq] at h
  obtain ⟨rfl, rfl⟩ := h
  have HR1 := Aside0.mk hr1
  have HC1 := Aside0.mk hc1
  have HR2 := Aside0.mk hr2
  have HC2 := Aside0.mk hc2
  have HX := Aside0.mk hx
  have HI := Aside0.mk hi
  have HS1 := Aside0.mk hs1
  have HD := Aside0.mk hd
  have HP := Aside0.mk hp
  have HT := Aside0.mk ht
  have HV_ := Aside0.mk hr'
  have HLIM := Aside0.mk hlim
  clear hr1 hc1 hr2 hc2 hx hi hs1 hd hp ht hr' hlim
  go_enter Try.func17, Try.ntmps17
  go_wp2
  obtain ⟨W0, hW0⟩ : ∃ W0, w.alloc (Obj.cells #[.int .i64 a0, .int .i64 a1, .int .i64 a2, .int .u64 a3, .int .u64 a4, .int .u64 a5] 24) = W0 := ⟨_, rfl⟩
  rw [hW0]
  have bk : W0.heap[w.heap.size]? = some (.cells #[.int .i64 a0, .int .i64 a1, .int .i64 a2, .int .u64 a3, .int .u64 a4, .int .u64 a5] 24 (0, 0)) := by rw [← hW0]; exact blk_new w _
  have HB := Aside0.mk (show Below w.heap.size w W0 by rw [← hW0]; exact below_alloc (Below.refl _ _) _)
  clear hW0
  have y0 : W0.cell? ⟨w.heap.size, 0, none⟩ = some (.int .i64 a0) := blk_cell bk 0
  have y1 : W0.cell? ⟨w.heap.size, 1, none⟩ = some (.int .i64 a1) := blk_cell bk 1
  have y2 : W0.cell? ⟨w.heap.size, 2, none⟩ = some (.int .i64 a2) := blk_cell bk 2
  have y3 : W0.cell? ⟨w.heap.size, 3, none⟩ = some (.int .u64 a3) := blk_cell bk 3
  have y4 : W0.cell? ⟨w.heap.size, 4, none⟩ = some (.int .u64 a4) := blk_cell bk 4
  have y5 : W0.cell? ⟨w.heap.size, 5, none⟩ = some (.int .u64 a5) := blk_cell bk 5
  have hlt : w.heap.size < W0.heap.size := (Array.getElem?_eq_some_iff.1 bk).1
  have HBn := Aside0.mk (Below.refl W0.heap.size W0)
  have HLT := Aside0.mk hlt
  have x0 := ((below_alloc (Below.refl W0.heap.size W0) (Obj.cells #[] 5)).cell (p := ⟨w.heap.size, 0, none⟩) hlt).trans y0
  have x1 := ((below_alloc (Below.refl W0.heap.size W0) (Obj.cells #[] 5)).cell (p := ⟨w.heap.size, 1, none⟩) hlt).trans y1
  have x2 := ((below_alloc (Below.refl W0.heap.size W0) (Obj.cells #[] 5)).cell (p := ⟨w.heap.size, 2, none⟩) hlt).trans y2
  have x3 := ((below_alloc (Below.refl W0.heap.size W0) (Obj.cells #[] 5)).cell (p := ⟨w.heap.size, 3, none⟩) hlt).trans y3
  have x4 := ((below_alloc (Below.refl W0.heap.size W0) (Obj.cells #[] 5)).cell (p := ⟨w.heap.size, 4, none⟩) hlt).trans y4
  have x5 := ((below_alloc (Below.refl W0.heap.size W0) (Obj.cells #[] 5)).cell (p := ⟨w.heap.size, 5, none⟩) hlt).trans y5
  clear hlt bk
  go_region_law (first
    | (refine Kd.R_append_rows_step (Kd.int .u8) (w0 := W0) W0.heap.size ?hw (.tmp 20) (.tmp 21) 25 5 (.int .u8 0) 1 rfl Try.underlying25 info5 rfl (by decide) (by omega) _ ([] : List Int) s A1 s.length c1 (fun _ => True) (fun _ => False) rfl rfl ?aO ?aR (fun _ _ h => h) (fun _ h => h.elim) ?aF ?aB ?aS ?aL ?_
       (case hw => simp [Region.wanted])
       (case aO => repeat (first | exact nil5 W0 W0 (Nat.le_refl _) | apply Kd.R_drewN | apply Kd.R_drew))
       (case aR => exact Kd.C_below HR1.out (HB.out.trans (Below.mono (B := W0.heap.size) (by repeat (first | exact Below.refl _ _ | apply Below.drew | exact below_alloc (Below.refl _ _) _)) (Nat.le_of_lt HLT.out))))
       (case aF => exact fun _ _ => trivial)
       (case aB => repeat (first | exact Below.refl _ _ | apply Below.drew | exact below_alloc (Below.refl _ _) _))
       (case aS => exact (below_alloc (Below.refl W0.heap.size W0) (Obj.cells #[] 5)).size)
       (case aL => have := HLIM.out; simp only [List.length_nil]; omega)
       intro v1 w1 hR1 hB1 hg1 hn1
       have HV := Aside0.mk hR1
       have HBn := Aside0.mk hB1
       have z0 := (hB1.cell (p := ⟨w.heap.size, 0, none⟩) HLT.out).trans y0
       have z1 := (hB1.cell (p := ⟨w.heap.size, 1, none⟩) HLT.out).trans y1
       have z2 := (hB1.cell (p := ⟨w.heap.size, 2, none⟩) HLT.out).trans y2
       have z3 := (hB1.cell (p := ⟨w.heap.size, 3, none⟩) HLT.out).trans y3
       have z4 := (hB1.cell (p := ⟨w.heap.size, 4, none⟩) HLT.out).trans y4
       have z5 := (hB1.cell (p := ⟨w.heap.size, 5, none⟩) HLT.out).trans y5
       clear hR1 hB1 hg1 hn1)
    | (go_simp
       go_at_call 20
       have HW := Aside0.mk (show Below W0.heap.size W0 _ from (by repeat (first | exact HBn.out | apply Below.drew)))
       refine (impl_texts.calls k A2 c2 l x _ ?s1 ?s2 HX.out).mono ?_
       (case s1 => exact Kd.C_below HR2.out (HB.out.trans (Below.mono (B := W0.heap.size) (by repeat (first | exact HBn.out | apply Below.drew | apply pw_below_drewN)) (Nat.le_of_lt HLT.out))))
       (case s2 => exact HC2.out)
       rintro e w3 ⟨v3, rfl, hS3, hb⟩
       have hb3 : Below W0.heap.size W0 w3 := Below.trans (by repeat (first | exact HBn.out | apply Below.drew)) (hb.mono HBn.out.size)
       have HV3 := Aside0.mk (Kd.R_below (by repeat (first | exact HV.out | apply Kd.R_drewN | apply Kd.R_drew)) hb)
       have u0 := (hb3.cell (p := ⟨w.heap.size, 0, none⟩) HLT.out).trans y0
       have u1 := (hb3.cell (p := ⟨w.heap.size, 1, none⟩) HLT.out).trans y1
       have u2 := (hb3.cell (p := ⟨w.heap.size, 2, none⟩) HLT.out).trans y2
       have u3 := (hb3.cell (p := ⟨w.heap.size, 3, none⟩) HLT.out).trans y3
       have u4 := (hb3.cell (p := ⟨w.heap.size, 4, none⟩) HLT.out).trans y4
       have u5 := (hb3.cell (p := ⟨w.heap.size, 5, none⟩) HLT.out).trans y5
       have HBn3 := Aside0.mk hb3
       obtain ⟨Ax, cx, rfl⟩ := Kd.S_slice hS3
       obtain ⟨_, hcx, hCx⟩ := Kd.S_reads' hS3
       have HCX := Aside0.mk hcx
       have HRX := Aside0.mk hCx
       clear hS3 hb hb3 hcx hCx)
    | (go_simp
       go_at_call 27
       refine (rootFrom.calls k a0 a1 a2 a3 a4 a5 v1 s Ax cx x idx size m b t r' _ W0.heap.size ?b1 ?b2 ?b3 HCX.out HI.out HS1.out HD.out HP.out.1 HP.out.2.1 HP.out.2.2 HT.out HV_.out).mono ?_
       (case b1 => exact HBn3.out.size)
       (case b2 => repeat (first | exact HV3.out | apply Kd.R_drewN | apply Kd.R_drew))
       (case b3 => repeat (first | exact HRX.out | (refine Kd.C_drewN ?_ _) | (refine Kd.C_drew ?_)))
       rintro e w5 ⟨v5, rfl, hR5, hb5⟩
       have HR5 := Aside0.mk hR5
       have HB5 := Aside0.mk (Below.trans HBn3.out (hb5.mono HBn3.out.size))
       clear hR5 hb5))
  all_goals
    clear x0 x1 x2 x3 x4 x5 y0 y1 y2 y3 y4 y5 z0 z1 z2 z3 z4 z5 u0 u1 u2 u3 u4 u5 HV HV3 HRX HCX HX HBn HBn3 HLT HLIM HR1 HC1 HR2 HC2
    go_step
    simp [Act.put]
    go_step
    go_wp2
    go_quiet (fail)
    go_wp2
    go_ret2
    exact ⟨_, rfl, Kd.R_drewN (Kd.R_lower HR5.out HB.out.size) _, pw_below_drewN (HB.out.trans (HB5.out.mono HB.out.size)) _⟩
end Go.Proofs.Ytbfhmcgiamnliaa.PAll
