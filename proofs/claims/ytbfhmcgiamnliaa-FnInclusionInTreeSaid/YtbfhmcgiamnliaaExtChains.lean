import Derived.Test.YtbfhmcgiamnliaaExtChain
import Derived.Deep.RegionLaw
namespace Go.Proofs.Ytbfhmcgiamnliaa.PAll
open Go.RowKit Go.Proofs.YtbfhmcgiamnliaaW.PrintWords Go.Proofs.YtbfhmcgiamnliaaW.PrintLast Go.Proofs.YtbfhmcgiamnliaaW.PrintMore
set_option linter.unusedVariables false
/-- An empty literal is a row of the call's own. -/
theorem nil5 (w W : World) (hb : w.heap.size ≤ W.heap.size) : Kd.R (Kd.int .u8) 5 (W.alloc (Obj.cells #[] 5)) w.heap.size (fun _ => True) (.slice (some ⟨W.heap.size, 0, none⟩) 0 0) [] :=
  Kd.R_of_own (enc := Value.int .u8) (xs := ([] : List Int)) ⟨rfl, .inr ⟨W.heap.size, 0, #[], rfl, hb, blk_new W _, Nat.le_refl _, by decide, rfl, rfl⟩⟩ (fun _ _ => trivial)
set_option maxHeartbeats 8000000 in
set_option maxRecDepth 100000 in
theorem doorInner.calls (k : Nat) (a0 a1 a2 a3 a4 a5 : Int) (v : Value) (s : List Int) (A : Option Addr) (c : Nat) (l : List (List Int)) (idx : Int) (r : List Int) (w : World) (B : Nat) (hB : B ≤ w.heap.size) (hs : Kd.R (Kd.int .u8) 5 w B (fun _ => True) v s) (hr : Kd.C (Kd.slice 5 (Kd.int .u8)) w A l.length l) (hc : l.length ≤ c)
    (h : up_ (impl_toy_HashChildren.f k a0 a1 a2 a3 a4 a5) idx l 0 s = some r) :
    Calls Try.prog 19 #[.iface 44 (.agg #[.int .i64 a0, .int .i64 a1, .int .i64 a2, .int .u64 a3, .int .u64 a4, .int .u64 a5]), v, .slice A l.length c, .int .u64 idx] w fun e w' => ∃ v0_, e = .returned v0_ ∧ Kd.R (Kd.int .u8) 5 w' B (fun _ => True) v0_ r ∧ Below w.heap.size w w' := by
  have HR := Aside0.mk hr
  have HC := Aside0.mk hc
  have HS := Aside0.mk hs
  have H := Aside0.mk h
  have HBB := Aside0.mk hB
  clear hr hc hs h hB
  go_enter Try.func19, Try.ntmps19
  go_wp2_with (fail)
  refine (chainInner.calls k a0 a1 a2 a3 a4 a5 v s A c l idx r _ B HBB.out HS.out HR.out HC.out H.out).mono ?_
  rintro e w' ⟨v0, rfl, h1, h2⟩
  have H1 := Aside0.mk h1
  have H2 := Aside0.mk h2
  clear h1 h2
  dsimp only
  go_wp2
  go_ret
  exact ⟨_, rfl, H1.out, H2.out⟩
def impl_ChainInner.f (k : Nat) (a0 a1 a2 a3 a4 a5 : Int) (s : List Int) (l : List (List Int)) (idx : Int) : Option (List Int) :=
  if s.length < 140737488355328 then (impl_texts.f k l).bind fun x => up_ (impl_toy_HashChildren.f k a0 a1 a2 a3 a4 a5) idx x 0 s else none
set_option maxHeartbeats 8000000 in
set_option maxRecDepth 100000 in
theorem impl_ChainInner.calls (k : Nat) (a0 a1 a2 a3 a4 a5 : Int) (A1 : Option Addr) (c1 : Nat) (s : List Int) (A2 : Option Addr) (c2 : Nat) (l : List (List Int)) (idx : Int) (r : List Int) (w : World) (hr1 : Kd.C (Kd.int .u8) w A1 s.length s) (hc1 : s.length ≤ c1) (hr2 : Kd.C (Kd.slice 5 (Kd.int .u8)) w A2 l.length l) (hc2 : l.length ≤ c2) (h : impl_ChainInner.f k a0 a1 a2 a3 a4 a5 s l idx = some r) :
    Calls Try.prog 9 #[.agg #[.int .i64 a0, .int .i64 a1, .int .i64 a2, .int .u64 a3, .int .u64 a4, .int .u64 a5], .slice A1 s.length c1, .slice A2 l.length c2, .int .u64 idx] w fun e w' => ∃ v0_, e = .returned v0_ ∧ Kd.R (Kd.int .u8) 5 w' w.heap.size (fun _ => True) v0_ r ∧ Below w.heap.size w w' := by
  unfold impl_ChainInner.f at h
  by_cases hlim : s.length < 140737488355328
  case neg => rw [if_neg hlim] at h; cases h
  rw [if_pos hlim] at h
  obtain ⟨x, hx, h⟩ := Option.bind_eq_some_iff.mp h
  have HR1 := Aside0.mk hr1
  have HC1 := Aside0.mk hc1
  have HR2 := Aside0.mk hr2
  have HC2 := Aside0.mk hc2
  have HX := Aside0.mk hx
  have H := Aside0.mk h
  have HLIM := Aside0.mk hlim
  clear hr1 hc1 hr2 hc2 hx h hlim
  go_enter Try.func9, Try.ntmps9
  go_wp2
  obtain ⟨W0, hW0⟩ : ∃ W0, w.alloc (Obj.cells #[.int .i64 a0, .int .i64 a1, .int .i64 a2, .int .u64 a3, .int .u64 a4, .int .u64 a5] 24) = W0 := ⟨_, rfl⟩
  rw [hW0]
  have bk : W0.heap[w.heap.size]? = some (.cells #[.int .i64 a0, .int .i64 a1, .int .i64 a2, .int .u64 a3, .int .u64 a4, .int .u64 a5] 24 (0, 0)) := by rw [← hW0]; exact blk_new w _
  have HB := Aside0.mk (show Below w.heap.size w W0 by rw [← hW0]; exact below_alloc (Below.refl _ _) _)
  clear hW0
  have y0 : W0.cell? ⟨w.heap.size, 0, none⟩ = some (.int .i64 a0) := blk_cell bk 0
  have y1 : W0.cell? ⟨w.heap.size, 1, none⟩ = some (.int .i64 a1) := blk_cell bk 1
  have y2 : W0.cell? ⟨w.heap.size, 2, none⟩ = some (.int .i64 a2) := blk_cell bk 2
  have y3 : W0.cell? ⟨w.heap.size, 3, none⟩ = some (.int .u64 a3) := blk_cell bk 3
  have y4 : W0.cell? ⟨w.heap.size, 4, none⟩ = some (.int .u64 a4) := blk_cell bk 4
  have y5 : W0.cell? ⟨w.heap.size, 5, none⟩ = some (.int .u64 a5) := blk_cell bk 5
  have hlt : w.heap.size < W0.heap.size := (Array.getElem?_eq_some_iff.1 bk).1
  have HBn := Aside0.mk (Below.refl W0.heap.size W0)
  have HLT := Aside0.mk hlt
  have x0 := ((below_alloc (Below.refl W0.heap.size W0) (Obj.cells #[] 5)).cell (p := ⟨w.heap.size, 0, none⟩) hlt).trans y0
  have x1 := ((below_alloc (Below.refl W0.heap.size W0) (Obj.cells #[] 5)).cell (p := ⟨w.heap.size, 1, none⟩) hlt).trans y1
  have x2 := ((below_alloc (Below.refl W0.heap.size W0) (Obj.cells #[] 5)).cell (p := ⟨w.heap.size, 2, none⟩) hlt).trans y2
  have x3 := ((below_alloc (Below.refl W0.heap.size W0) (Obj.cells #[] 5)).cell (p := ⟨w.heap.size, 3, none⟩) hlt).trans y3
  have x4 := ((below_alloc (Below.refl W0.heap.size W0) (Obj.cells #[] 5)).cell (p := ⟨w.heap.size, 4, none⟩) hlt).trans y4
  have x5 := ((below_alloc (Below.refl W0.heap.size W0) (Obj.cells #[] 5)).cell (p := ⟨w.heap.size, 5, none⟩) hlt).trans y5
  clear hlt bk
  go_region_law (first
    | (refine Kd.R_append_rows_step (Kd.int .u8) (w0 := W0) W0.heap.size ?hw (.tmp 12) (.tmp 13) 25 5 (.int .u8 0) 1 rfl Try.underlying25 info5 rfl (by decide) (by omega) _ ([] : List Int) s A1 s.length c1 (fun _ => True) (fun _ => False) rfl rfl ?aO ?aR (fun _ _ h => h) (fun _ h => h.elim) ?aF ?aB ?aS ?aL ?_
       (case hw => simp [Region.wanted])
       (case aO => repeat (first | exact nil5 W0 W0 (Nat.le_refl _) | apply Kd.R_drewN | apply Kd.R_drew))
       (case aR => exact Kd.C_below HR1.out (HB.out.trans (Below.mono (B := W0.heap.size) (by repeat (first | exact Below.refl _ _ | apply Below.drew | exact below_alloc (Below.refl _ _) _)) (Nat.le_of_lt HLT.out))))
       (case aF => exact fun _ _ => trivial)
       (case aB => repeat (first | exact Below.refl _ _ | apply Below.drew | exact below_alloc (Below.refl _ _) _))
       (case aS => exact (below_alloc (Below.refl W0.heap.size W0) (Obj.cells #[] 5)).size)
       (case aL => have := HLIM.out; simp only [List.length_nil]; omega)
       intro v1 w1 hR1 hB1 hg1 hn1
       have HV := Aside0.mk hR1
       have HBn := Aside0.mk hB1
       have z0 := (hB1.cell (p := ⟨w.heap.size, 0, none⟩) HLT.out).trans y0
       have z1 := (hB1.cell (p := ⟨w.heap.size, 1, none⟩) HLT.out).trans y1
       have z2 := (hB1.cell (p := ⟨w.heap.size, 2, none⟩) HLT.out).trans y2
       have z3 := (hB1.cell (p := ⟨w.heap.size, 3, none⟩) HLT.out).trans y3
       have z4 := (hB1.cell (p := ⟨w.heap.size, 4, none⟩) HLT.out).trans y4
       have z5 := (hB1.cell (p := ⟨w.heap.size, 5, none⟩) HLT.out).trans y5
       clear hR1 hB1 hg1 hn1)
    | (go_simp
       go_at_call 20
       have HW := Aside0.mk (show Below W0.heap.size W0 _ from (by repeat (first | exact HBn.out | apply Below.drew)))
       refine (impl_texts.calls k A2 c2 l x _ ?s1 ?s2 HX.out).mono ?_
       (case s1 => exact Kd.C_below HR2.out (HB.out.trans (Below.mono (B := W0.heap.size) (by repeat (first | exact HBn.out | apply Below.drew | apply pw_below_drewN)) (Nat.le_of_lt HLT.out))))
       (case s2 => exact HC2.out)
       rintro e w3 ⟨v3, rfl, hS3, hb⟩
       have hb3 : Below W0.heap.size W0 w3 := Below.trans (by repeat (first | exact HBn.out | apply Below.drew)) (hb.mono HBn.out.size)
       have HV3 := Aside0.mk (Kd.R_below (by repeat (first | exact HV.out | apply Kd.R_drewN | apply Kd.R_drew)) hb)
       have u0 := (hb3.cell (p := ⟨w.heap.size, 0, none⟩) HLT.out).trans y0
       have u1 := (hb3.cell (p := ⟨w.heap.size, 1, none⟩) HLT.out).trans y1
       have u2 := (hb3.cell (p := ⟨w.heap.size, 2, none⟩) HLT.out).trans y2
       have u3 := (hb3.cell (p := ⟨w.heap.size, 3, none⟩) HLT.out).trans y3
       have u4 := (hb3.cell (p := ⟨w.heap.size, 4, none⟩) HLT.out).trans y4
       have u5 := (hb3.cell (p := ⟨w.heap.size, 5, none⟩) HLT.out).trans y5
       have HBn3 := Aside0.mk hb3
       obtain ⟨Ax, cx, rfl⟩ := Kd.S_slice hS3
       obtain ⟨_, hcx, hCx⟩ := Kd.S_reads' hS3
       have HCX := Aside0.mk hcx
       have HRX := Aside0.mk hCx
       clear hS3 hb hb3 hcx hCx)
    | (go_simp
       go_at_call 19
       refine (doorInner.calls k a0 a1 a2 a3 a4 a5 v1 s Ax cx x idx r _ W0.heap.size ?b1 ?b2 ?b3 HCX.out H.out).mono ?_
       (case b1 => exact HBn3.out.size)
       (case b2 => repeat (first | exact HV3.out | apply Kd.R_drewN | apply Kd.R_drew))
       (case b3 => repeat (first | exact HRX.out | (refine Kd.C_drewN ?_ _) | (refine Kd.C_drew ?_)))
       rintro e w5 ⟨v5, rfl, hR5, hb5⟩
       have HR5 := Aside0.mk hR5
       have HB5 := Aside0.mk (Below.trans HBn3.out (hb5.mono HBn3.out.size))
       clear hR5 hb5))
  all_goals
    clear x0 x1 x2 x3 x4 x5 y0 y1 y2 y3 y4 y5 z0 z1 z2 z3 z4 z5 u0 u1 u2 u3 u4 u5 HV HV3 HRX HCX HX H HBn HBn3 HLT HLIM HR1 HC1 HR2 HC2
    go_step
    go_step
    simp [Act.put]
    go_step
    go_ret
    refine ⟨_, rfl, ?_, ?_⟩
    · exact Kd.R_lower HR5.out HB.out.size
    · exact HB.out.trans (HB5.out.mono HB.out.size)
set_option maxHeartbeats 8000000 in
set_option maxRecDepth 100000 in
theorem doorInnerRight.calls (k : Nat) (a0 a1 a2 a3 a4 a5 : Int) (v : Value) (s : List Int) (A : Option Addr) (c : Nat) (l : List (List Int)) (idx : Int) (r : List Int) (w : World) (B : Nat) (hB : B ≤ w.heap.size) (hs : Kd.R (Kd.int .u8) 5 w B (fun _ => True) v s) (hr : Kd.C (Kd.slice 5 (Kd.int .u8)) w A l.length l) (hc : l.length ≤ c)
    (h : upR_ (impl_toy_HashChildren.f k a0 a1 a2 a3 a4 a5) idx l 0 s = some r) :
    Calls Try.prog 22 #[.iface 44 (.agg #[.int .i64 a0, .int .i64 a1, .int .i64 a2, .int .u64 a3, .int .u64 a4, .int .u64 a5]), v, .slice A l.length c, .int .u64 idx] w fun e w' => ∃ v0_, e = .returned v0_ ∧ Kd.R (Kd.int .u8) 5 w' B (fun _ => True) v0_ r ∧ Below w.heap.size w w' := by
  have HR := Aside0.mk hr
  have HC := Aside0.mk hc
  have HS := Aside0.mk hs
  have H := Aside0.mk h
  have HBB := Aside0.mk hB
  clear hr hc hs h hB
  go_enter Try.func22, Try.ntmps22
  go_wp2_with (fail)
  refine (chainInnerRight.calls k a0 a1 a2 a3 a4 a5 v s A c l idx r _ B HBB.out HS.out HR.out HC.out H.out).mono ?_
  rintro e w' ⟨v0, rfl, h1, h2⟩
  have H1 := Aside0.mk h1
  have H2 := Aside0.mk h2
  clear h1 h2
  dsimp only
  go_wp2
  go_ret
  exact ⟨_, rfl, H1.out, H2.out⟩
def impl_ChainInnerRight.f (k : Nat) (a0 a1 a2 a3 a4 a5 : Int) (s : List Int) (l : List (List Int)) (idx : Int) : Option (List Int) :=
  if s.length < 140737488355328 then (impl_texts.f k l).bind fun x => upR_ (impl_toy_HashChildren.f k a0 a1 a2 a3 a4 a5) idx x 0 s else none
set_option maxHeartbeats 8000000 in
set_option maxRecDepth 100000 in
theorem impl_ChainInnerRight.calls (k : Nat) (a0 a1 a2 a3 a4 a5 : Int) (A1 : Option Addr) (c1 : Nat) (s : List Int) (A2 : Option Addr) (c2 : Nat) (l : List (List Int)) (idx : Int) (r : List Int) (w : World) (hr1 : Kd.C (Kd.int .u8) w A1 s.length s) (hc1 : s.length ≤ c1) (hr2 : Kd.C (Kd.slice 5 (Kd.int .u8)) w A2 l.length l) (hc2 : l.length ≤ c2) (h : impl_ChainInnerRight.f k a0 a1 a2 a3 a4 a5 s l idx = some r) :
    Calls Try.prog 11 #[.agg #[.int .i64 a0, .int .i64 a1, .int .i64 a2, .int .u64 a3, .int .u64 a4, .int .u64 a5], .slice A1 s.length c1, .slice A2 l.length c2, .int .u64 idx] w fun e w' => ∃ v0_, e = .returned v0_ ∧ Kd.R (Kd.int .u8) 5 w' w.heap.size (fun _ => True) v0_ r ∧ Below w.heap.size w w' := by
  unfold impl_ChainInnerRight.f at h
  by_cases hlim : s.length < 140737488355328
  case neg => rw [if_neg hlim] at h; cases h
  rw [if_pos hlim] at h
  obtain ⟨x, hx, h⟩ := Option.bind_eq_some_iff.mp h
  have HR1 := Aside0.mk hr1
  have HC1 := Aside0.mk hc1
  have HR2 := Aside0.mk hr2
  have HC2 := Aside0.mk hc2
  have HX := Aside0.mk hx
  have H := Aside0.mk h
  have HLIM := Aside0.mk hlim
  clear hr1 hc1 hr2 hc2 hx h hlim
  go_enter Try.func11, Try.ntmps11
  go_wp2
  obtain ⟨W0, hW0⟩ : ∃ W0, w.alloc (Obj.cells #[.int .i64 a0, .int .i64 a1, .int .i64 a2, .int .u64 a3, .int .u64 a4, .int .u64 a5] 24) = W0 := ⟨_, rfl⟩
  rw [hW0]
  have bk : W0.heap[w.heap.size]? = some (.cells #[.int .i64 a0, .int .i64 a1, .int .i64 a2, .int .u64 a3, .int .u64 a4, .int .u64 a5] 24 (0, 0)) := by rw [← hW0]; exact blk_new w _
  have HB := Aside0.mk (show Below w.heap.size w W0 by rw [← hW0]; exact below_alloc (Below.refl _ _) _)
  clear hW0
  have y0 : W0.cell? ⟨w.heap.size, 0, none⟩ = some (.int .i64 a0) := blk_cell bk 0
  have y1 : W0.cell? ⟨w.heap.size, 1, none⟩ = some (.int .i64 a1) := blk_cell bk 1
  have y2 : W0.cell? ⟨w.heap.size, 2, none⟩ = some (.int .i64 a2) := blk_cell bk 2
  have y3 : W0.cell? ⟨w.heap.size, 3, none⟩ = some (.int .u64 a3) := blk_cell bk 3
  have y4 : W0.cell? ⟨w.heap.size, 4, none⟩ = some (.int .u64 a4) := blk_cell bk 4
  have y5 : W0.cell? ⟨w.heap.size, 5, none⟩ = some (.int .u64 a5) := blk_cell bk 5
  have hlt : w.heap.size < W0.heap.size := (Array.getElem?_eq_some_iff.1 bk).1
  have HBn := Aside0.mk (Below.refl W0.heap.size W0)
  have HLT := Aside0.mk hlt
  have x0 := ((below_alloc (Below.refl W0.heap.size W0) (Obj.cells #[] 5)).cell (p := ⟨w.heap.size, 0, none⟩) hlt).trans y0
  have x1 := ((below_alloc (Below.refl W0.heap.size W0) (Obj.cells #[] 5)).cell (p := ⟨w.heap.size, 1, none⟩) hlt).trans y1
  have x2 := ((below_alloc (Below.refl W0.heap.size W0) (Obj.cells #[] 5)).cell (p := ⟨w.heap.size, 2, none⟩) hlt).trans y2
  have x3 := ((below_alloc (Below.refl W0.heap.size W0) (Obj.cells #[] 5)).cell (p := ⟨w.heap.size, 3, none⟩) hlt).trans y3
  have x4 := ((below_alloc (Below.refl W0.heap.size W0) (Obj.cells #[] 5)).cell (p := ⟨w.heap.size, 4, none⟩) hlt).trans y4
  have x5 := ((below_alloc (Below.refl W0.heap.size W0) (Obj.cells #[] 5)).cell (p := ⟨w.heap.size, 5, none⟩) hlt).trans y5
  clear hlt bk
  go_region_law (first
    | (refine Kd.R_append_rows_step (Kd.int .u8) (w0 := W0) W0.heap.size ?hw (.tmp 12) (.tmp 13) 25 5 (.int .u8 0) 1 rfl Try.underlying25 info5 rfl (by decide) (by omega) _ ([] : List Int) s A1 s.length c1 (fun _ => True) (fun _ => False) rfl rfl ?aO ?aR (fun _ _ h => h) (fun _ h => h.elim) ?aF ?aB ?aS ?aL ?_
       (case hw => simp [Region.wanted])
       (case aO => repeat (first | exact nil5 W0 W0 (Nat.le_refl _) | apply Kd.R_drewN | apply Kd.R_drew))
       (case aR => exact Kd.C_below HR1.out (HB.out.trans (Below.mono (B := W0.heap.size) (by repeat (first | exact Below.refl _ _ | apply Below.drew | exact below_alloc (Below.refl _ _) _)) (Nat.le_of_lt HLT.out))))
       (case aF => exact fun _ _ => trivial)
       (case aB => repeat (first | exact Below.refl _ _ | apply Below.drew | exact below_alloc (Below.refl _ _) _))
       (case aS => exact (below_alloc (Below.refl W0.heap.size W0) (Obj.cells #[] 5)).size)
       (case aL => have := HLIM.out; simp only [List.length_nil]; omega)
       intro v1 w1 hR1 hB1 hg1 hn1
       have HV := Aside0.mk hR1
       have HBn := Aside0.mk hB1
       have z0 := (hB1.cell (p := ⟨w.heap.size, 0, none⟩) HLT.out).trans y0
       have z1 := (hB1.cell (p := ⟨w.heap.size, 1, none⟩) HLT.out).trans y1
       have z2 := (hB1.cell (p := ⟨w.heap.size, 2, none⟩) HLT.out).trans y2
       have z3 := (hB1.cell (p := ⟨w.heap.size, 3, none⟩) HLT.out).trans y3
       have z4 := (hB1.cell (p := ⟨w.heap.size, 4, none⟩) HLT.out).trans y4
       have z5 := (hB1.cell (p := ⟨w.heap.size, 5, none⟩) HLT.out).trans y5
       clear hR1 hB1 hg1 hn1)
    | (go_simp
       go_at_call 20
       have HW := Aside0.mk (show Below W0.heap.size W0 _ from (by repeat (first | exact HBn.out | apply Below.drew)))
       refine (impl_texts.calls k A2 c2 l x _ ?s1 ?s2 HX.out).mono ?_
       (case s1 => exact Kd.C_below HR2.out (HB.out.trans (Below.mono (B := W0.heap.size) (by repeat (first | exact HBn.out | apply Below.drew | apply pw_below_drewN)) (Nat.le_of_lt HLT.out))))
       (case s2 => exact HC2.out)
       rintro e w3 ⟨v3, rfl, hS3, hb⟩
       have hb3 : Below W0.heap.size W0 w3 := Below.trans (by repeat (first | exact HBn.out | apply Below.drew)) (hb.mono HBn.out.size)
       have HV3 := Aside0.mk (Kd.R_below (by repeat (first | exact HV.out | apply Kd.R_drewN | apply Kd.R_drew)) hb)
       have u0 := (hb3.cell (p := ⟨w.heap.size, 0, none⟩) HLT.out).trans y0
       have u1 := (hb3.cell (p := ⟨w.heap.size, 1, none⟩) HLT.out).trans y1
       have u2 := (hb3.cell (p := ⟨w.heap.size, 2, none⟩) HLT.out).trans y2
       have u3 := (hb3.cell (p := ⟨w.heap.size, 3, none⟩) HLT.out).trans y3
       have u4 := (hb3.cell (p := ⟨w.heap.size, 4, none⟩) HLT.out).trans y4
       have u5 := (hb3.cell (p := ⟨w.heap.size, 5, none⟩) HLT.out).trans y5
       have HBn3 := Aside0.mk hb3
       obtain ⟨Ax, cx, rfl⟩ := Kd.S_slice hS3
       obtain ⟨_, hcx, hCx⟩ := Kd.S_reads' hS3
       have HCX := Aside0.mk hcx
       have HRX := Aside0.mk hCx
       clear hS3 hb hb3 hcx hCx)
    | (go_simp
       go_at_call 22
       refine (doorInnerRight.calls k a0 a1 a2 a3 a4 a5 v1 s Ax cx x idx r _ W0.heap.size ?b1 ?b2 ?b3 HCX.out H.out).mono ?_
       (case b1 => exact HBn3.out.size)
       (case b2 => repeat (first | exact HV3.out | apply Kd.R_drewN | apply Kd.R_drew))
       (case b3 => repeat (first | exact HRX.out | (refine Kd.C_drewN ?_ _) | (refine Kd.C_drew ?_)))
       rintro e w5 ⟨v5, rfl, hR5, hb5⟩
       have HR5 := Aside0.mk hR5
       have HB5 := Aside0.mk (Below.trans HBn3.out (hb5.mono HBn3.out.size))
       clear hR5 hb5))
  all_goals
    clear x0 x1 x2 x3 x4 x5 y0 y1 y2 y3 y4 y5 z0 z1 z2 z3 z4 z5 u0 u1 u2 u3 u4 u5 HV HV3 HRX HCX HX H HBn HBn3 HLT HLIM HR1 HC1 HR2 HC2
    go_step
    go_step
    simp [Act.put]
    go_step
    go_ret
    refine ⟨_, rfl, ?_, ?_⟩
    · exact Kd.R_lower HR5.out HB.out.size
    · exact HB.out.trans (HB5.out.mono HB.out.size)
set_option maxHeartbeats 8000000 in
set_option maxRecDepth 100000 in
theorem doorBorder.calls (k : Nat) (a0 a1 a2 a3 a4 a5 : Int) (v : Value) (s : List Int) (A : Option Addr) (c : Nat) (l : List (List Int)) (r : List Int) (w : World) (B : Nat) (hB : B ≤ w.heap.size) (hs : Kd.R (Kd.int .u8) 5 w B (fun _ => True) v s) (hr : Kd.C (Kd.slice 5 (Kd.int .u8)) w A l.length l) (hc : l.length ≤ c)
    (h : upB_ (impl_toy_HashChildren.f k a0 a1 a2 a3 a4 a5) l s = some r) :
    Calls Try.prog 23 #[.iface 44 (.agg #[.int .i64 a0, .int .i64 a1, .int .i64 a2, .int .u64 a3, .int .u64 a4, .int .u64 a5]), v, .slice A l.length c] w fun e w' => ∃ v0_, e = .returned v0_ ∧ Kd.R (Kd.int .u8) 5 w' B (fun _ => True) v0_ r ∧ Below w.heap.size w w' := by
  have HR := Aside0.mk hr
  have HC := Aside0.mk hc
  have HS := Aside0.mk hs
  have H := Aside0.mk h
  have HBB := Aside0.mk hB
  clear hr hc hs h hB
  go_enter Try.func23, Try.ntmps23
  go_wp2_with (fail)
  refine (chainBorder.calls k a0 a1 a2 a3 a4 a5 v s A c l r _ B HBB.out HS.out HR.out HC.out H.out).mono ?_
  rintro e w' ⟨v0, rfl, h1, h2⟩
  have H1 := Aside0.mk h1
  have H2 := Aside0.mk h2
  clear h1 h2
  dsimp only
  go_wp2
  go_ret
  exact ⟨_, rfl, H1.out, H2.out⟩
def impl_ChainBorder.f (k : Nat) (a0 a1 a2 a3 a4 a5 : Int) (s : List Int) (l : List (List Int)) : Option (List Int) :=
  if s.length < 140737488355328 then (impl_texts.f k l).bind fun x => upB_ (impl_toy_HashChildren.f k a0 a1 a2 a3 a4 a5) x s else none
set_option maxHeartbeats 8000000 in
set_option maxRecDepth 100000 in
theorem impl_ChainBorder.calls (k : Nat) (a0 a1 a2 a3 a4 a5 : Int) (A1 : Option Addr) (c1 : Nat) (s : List Int) (A2 : Option Addr) (c2 : Nat) (l : List (List Int)) (r : List Int) (w : World) (hr1 : Kd.C (Kd.int .u8) w A1 s.length s) (hc1 : s.length ≤ c1) (hr2 : Kd.C (Kd.slice 5 (Kd.int .u8)) w A2 l.length l) (hc2 : l.length ≤ c2) (h : impl_ChainBorder.f k a0 a1 a2 a3 a4 a5 s l = some r) :
    Calls Try.prog 12 #[.agg #[.int .i64 a0, .int .i64 a1, .int .i64 a2, .int .u64 a3, .int .u64 a4, .int .u64 a5], .slice A1 s.length c1, .slice A2 l.length c2] w fun e w' => ∃ v0_, e = .returned v0_ ∧ Kd.R (Kd.int .u8) 5 w' w.heap.size (fun _ => True) v0_ r ∧ Below w.heap.size w w' := by
  unfold impl_ChainBorder.f at h
  by_cases hlim : s.length < 140737488355328
  case neg => rw [if_neg hlim] at h; cases h
  rw [if_pos hlim] at h
  obtain ⟨x, hx, h⟩ := Option.bind_eq_some_iff.mp h
  have HR1 := Aside0.mk hr1
  have HC1 := Aside0.mk hc1
  have HR2 := Aside0.mk hr2
  have HC2 := Aside0.mk hc2
  have HX := Aside0.mk hx
  have H := Aside0.mk h
  have HLIM := Aside0.mk hlim
  clear hr1 hc1 hr2 hc2 hx h hlim
  go_enter Try.func12, Try.ntmps12
  go_wp2
  obtain ⟨W0, hW0⟩ : ∃ W0, w.alloc (Obj.cells #[.int .i64 a0, .int .i64 a1, .int .i64 a2, .int .u64 a3, .int .u64 a4, .int .u64 a5] 24) = W0 := ⟨_, rfl⟩
  rw [hW0]
  have bk : W0.heap[w.heap.size]? = some (.cells #[.int .i64 a0, .int .i64 a1, .int .i64 a2, .int .u64 a3, .int .u64 a4, .int .u64 a5] 24 (0, 0)) := by rw [← hW0]; exact blk_new w _
  have HB := Aside0.mk (show Below w.heap.size w W0 by rw [← hW0]; exact below_alloc (Below.refl _ _) _)
  clear hW0
  have y0 : W0.cell? ⟨w.heap.size, 0, none⟩ = some (.int .i64 a0) := blk_cell bk 0
  have y1 : W0.cell? ⟨w.heap.size, 1, none⟩ = some (.int .i64 a1) := blk_cell bk 1
  have y2 : W0.cell? ⟨w.heap.size, 2, none⟩ = some (.int .i64 a2) := blk_cell bk 2
  have y3 : W0.cell? ⟨w.heap.size, 3, none⟩ = some (.int .u64 a3) := blk_cell bk 3
  have y4 : W0.cell? ⟨w.heap.size, 4, none⟩ = some (.int .u64 a4) := blk_cell bk 4
  have y5 : W0.cell? ⟨w.heap.size, 5, none⟩ = some (.int .u64 a5) := blk_cell bk 5
  have hlt : w.heap.size < W0.heap.size := (Array.getElem?_eq_some_iff.1 bk).1
  have HBn := Aside0.mk (Below.refl W0.heap.size W0)
  have HLT := Aside0.mk hlt
  have x0 := ((below_alloc (Below.refl W0.heap.size W0) (Obj.cells #[] 5)).cell (p := ⟨w.heap.size, 0, none⟩) hlt).trans y0
  have x1 := ((below_alloc (Below.refl W0.heap.size W0) (Obj.cells #[] 5)).cell (p := ⟨w.heap.size, 1, none⟩) hlt).trans y1
  have x2 := ((below_alloc (Below.refl W0.heap.size W0) (Obj.cells #[] 5)).cell (p := ⟨w.heap.size, 2, none⟩) hlt).trans y2
  have x3 := ((below_alloc (Below.refl W0.heap.size W0) (Obj.cells #[] 5)).cell (p := ⟨w.heap.size, 3, none⟩) hlt).trans y3
  have x4 := ((below_alloc (Below.refl W0.heap.size W0) (Obj.cells #[] 5)).cell (p := ⟨w.heap.size, 4, none⟩) hlt).trans y4
  have x5 := ((below_alloc (Below.refl W0.heap.size W0) (Obj.cells #[] 5)).cell (p := ⟨w.heap.size, 5, none⟩) hlt).trans y5
  clear hlt bk
  go_region_law (first
    | (refine Kd.R_append_rows_step (Kd.int .u8) (w0 := W0) W0.heap.size ?hw (.tmp 10) (.tmp 11) 25 5 (.int .u8 0) 1 rfl Try.underlying25 info5 rfl (by decide) (by omega) _ ([] : List Int) s A1 s.length c1 (fun _ => True) (fun _ => False) rfl rfl ?aO ?aR (fun _ _ h => h) (fun _ h => h.elim) ?aF ?aB ?aS ?aL ?_
       (case hw => simp [Region.wanted])
       (case aO => repeat (first | exact nil5 W0 W0 (Nat.le_refl _) | apply Kd.R_drewN | apply Kd.R_drew))
       (case aR => exact Kd.C_below HR1.out (HB.out.trans (Below.mono (B := W0.heap.size) (by repeat (first | exact Below.refl _ _ | apply Below.drew | exact below_alloc (Below.refl _ _) _)) (Nat.le_of_lt HLT.out))))
       (case aF => exact fun _ _ => trivial)
       (case aB => repeat (first | exact Below.refl _ _ | apply Below.drew | exact below_alloc (Below.refl _ _) _))
       (case aS => exact (below_alloc (Below.refl W0.heap.size W0) (Obj.cells #[] 5)).size)
       (case aL => have := HLIM.out; simp only [List.length_nil]; omega)
       intro v1 w1 hR1 hB1 hg1 hn1
       have HV := Aside0.mk hR1
       have HBn := Aside0.mk hB1
       have z0 := (hB1.cell (p := ⟨w.heap.size, 0, none⟩) HLT.out).trans y0
       have z1 := (hB1.cell (p := ⟨w.heap.size, 1, none⟩) HLT.out).trans y1
       have z2 := (hB1.cell (p := ⟨w.heap.size, 2, none⟩) HLT.out).trans y2
       have z3 := (hB1.cell (p := ⟨w.heap.size, 3, none⟩) HLT.out).trans y3
       have z4 := (hB1.cell (p := ⟨w.heap.size, 4, none⟩) HLT.out).trans y4
       have z5 := (hB1.cell (p := ⟨w.heap.size, 5, none⟩) HLT.out).trans y5
       clear hR1 hB1 hg1 hn1)
    | (go_simp
       go_at_call 20
       have HW := Aside0.mk (show Below W0.heap.size W0 _ from (by repeat (first | exact HBn.out | apply Below.drew)))
       refine (impl_texts.calls k A2 c2 l x _ ?s1 ?s2 HX.out).mono ?_
       (case s1 => exact Kd.C_below HR2.out (HB.out.trans (Below.mono (B := W0.heap.size) (by repeat (first | exact HBn.out | apply Below.drew | apply pw_below_drewN)) (Nat.le_of_lt HLT.out))))
       (case s2 => exact HC2.out)
       rintro e w3 ⟨v3, rfl, hS3, hb⟩
       have hb3 : Below W0.heap.size W0 w3 := Below.trans (by repeat (first | exact HBn.out | apply Below.drew)) (hb.mono HBn.out.size)
       have HV3 := Aside0.mk (Kd.R_below (by repeat (first | exact HV.out | apply Kd.R_drewN | apply Kd.R_drew)) hb)
       have u0 := (hb3.cell (p := ⟨w.heap.size, 0, none⟩) HLT.out).trans y0
       have u1 := (hb3.cell (p := ⟨w.heap.size, 1, none⟩) HLT.out).trans y1
       have u2 := (hb3.cell (p := ⟨w.heap.size, 2, none⟩) HLT.out).trans y2
       have u3 := (hb3.cell (p := ⟨w.heap.size, 3, none⟩) HLT.out).trans y3
       have u4 := (hb3.cell (p := ⟨w.heap.size, 4, none⟩) HLT.out).trans y4
       have u5 := (hb3.cell (p := ⟨w.heap.size, 5, none⟩) HLT.out).trans y5
       have HBn3 := Aside0.mk hb3
       obtain ⟨Ax, cx, rfl⟩ := Kd.S_slice hS3
       obtain ⟨_, hcx, hCx⟩ := Kd.S_reads' hS3
       have HCX := Aside0.mk hcx
       have HRX := Aside0.mk hCx
       clear hS3 hb hb3 hcx hCx)
    | (go_simp
       go_at_call 23
       refine (doorBorder.calls k a0 a1 a2 a3 a4 a5 v1 s Ax cx x r _ W0.heap.size ?b1 ?b2 ?b3 HCX.out H.out).mono ?_
       (case b1 => exact HBn3.out.size)
       (case b2 => repeat (first | exact HV3.out | apply Kd.R_drewN | apply Kd.R_drew))
       (case b3 => repeat (first | exact HRX.out | (refine Kd.C_drewN ?_ _) | (refine Kd.C_drew ?_)))
       rintro e w5 ⟨v5, rfl, hR5, hb5⟩
       have HR5 := Aside0.mk hR5
       have HB5 := Aside0.mk (Below.trans HBn3.out (hb5.mono HBn3.out.size))
       clear hR5 hb5))
  all_goals
    clear x0 x1 x2 x3 x4 x5 y0 y1 y2 y3 y4 y5 z0 z1 z2 z3 z4 z5 u0 u1 u2 u3 u4 u5 HV HV3 HRX HCX HX H HBn HBn3 HLT HLIM HR1 HC1 HR2 HC2
    go_step
    go_step
    simp [Act.put]
    go_step
    go_ret
    refine ⟨_, rfl, ?_, ?_⟩
    · exact Kd.R_lower HR5.out HB.out.size
    · exact HB.out.trans (HB5.out.mono HB.out.size)
theorem up_mono {H H' : List Int → List Int → Option (List Int)} (h : ∀ a b, LeO (H a b) (H' a b)) (idx : Int) : ∀ l i s, LeO (up_ H idx l i s) (up_ H' idx l i s)
  | [], _, _ => LeO.refl _
  | x :: xs, i, s => by
    unfold up_
    exact LeO.bind (LeO.ite (h _ _) (h _ _)) (fun t => up_mono h idx xs (i + 1) t)
theorem upR_mono {H H' : List Int → List Int → Option (List Int)} (h : ∀ a b, LeO (H a b) (H' a b)) (idx : Int) : ∀ l i s, LeO (upR_ H idx l i s) (upR_ H' idx l i s)
  | [], _, _ => LeO.refl _
  | x :: xs, i, s => by
    unfold upR_
    exact LeO.bind (LeO.ite (h _ _) (LeO.refl _)) (fun t => upR_mono h idx xs (i + 1) t)
theorem upB_mono {H H' : List Int → List Int → Option (List Int)} (h : ∀ a b, LeO (H a b) (H' a b)) : ∀ l s, LeO (upB_ H l s) (upB_ H' l s)
  | [], _ => LeO.refl _
  | x :: xs, s => by
    unfold upB_
    exact LeO.bind (h _ _) (fun t => upB_mono h xs t)
theorem impl_ChainInner.mono : ∀ a0 a1 a2 a3 a4 a5 s l idx k, LeO (impl_ChainInner.f k a0 a1 a2 a3 a4 a5 s l idx) (impl_ChainInner.f (k + 1) a0 a1 a2 a3 a4 a5 s l idx) := by
  intro a0 a1 a2 a3 a4 a5 s l idx k
  unfold impl_ChainInner.f
  exact LeO.ite (LeO.bind (impl_texts.mono _ _) (fun x => up_mono (fun a b => impl_toy_HashChildren.mono _ _ _ _ _ _ _ _ _) _ _ _ _)) (LeO.refl _)
theorem impl_ChainInnerRight.mono : ∀ a0 a1 a2 a3 a4 a5 s l idx k, LeO (impl_ChainInnerRight.f k a0 a1 a2 a3 a4 a5 s l idx) (impl_ChainInnerRight.f (k + 1) a0 a1 a2 a3 a4 a5 s l idx) := by
  intro a0 a1 a2 a3 a4 a5 s l idx k
  unfold impl_ChainInnerRight.f
  exact LeO.ite (LeO.bind (impl_texts.mono _ _) (fun x => upR_mono (fun a b => impl_toy_HashChildren.mono _ _ _ _ _ _ _ _ _) _ _ _ _)) (LeO.refl _)
theorem impl_ChainBorder.mono : ∀ a0 a1 a2 a3 a4 a5 s l k, LeO (impl_ChainBorder.f k a0 a1 a2 a3 a4 a5 s l) (impl_ChainBorder.f (k + 1) a0 a1 a2 a3 a4 a5 s l) := by
  intro a0 a1 a2 a3 a4 a5 s l k
  unfold impl_ChainBorder.f
  exact LeO.ite (LeO.bind (impl_texts.mono _ _) (fun x => upB_mono (fun a b => impl_toy_HashChildren.mono _ _ _ _ _ _ _ _ _) _ _)) (LeO.refl _)
end Go.Proofs.Ytbfhmcgiamnliaa.PAll
