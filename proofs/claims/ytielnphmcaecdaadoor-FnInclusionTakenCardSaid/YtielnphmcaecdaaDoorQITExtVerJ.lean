-- Written by a program of this session (wip/tools)
import Derived.Test.YtielnphmcaecdaaDoorQITExtVerB
import Derived.Deep.RegionHeldLaw
namespace Go.Proofs.YtielnphmcaecdaaDoor.PAll
open Go.IntWalk Go.RowKit Go.Proofs.YtielnphmcaecdaaDoorW.PrintWords Go.Proofs.YtielnphmcaecdaaDoorW.PrintLast Go.Proofs.YtielnphmcaecdaaDoorW.PrintMore
set_option linter.unusedVariables false
set_option linter.unusedSimpArgs false
theorem load_none (W : World) (ad : Addr) : (loadCells ad 0).run Tryd.prog W = .ok #[] W := by
  simp [loadCells, loadCellsFrom]
theorem append_same (W : World) (A : Option Addr) (m c : Nat) (ad : Addr) (ty : TypeId) (hm : 0 < m) (hl : m ≤ 140737488355328) :
    (Builtin.append_ #[27, 27] ty #[.slice (some ad) 0 0, .slice A m c]).run Tryd.prog W = (Builtin.append_ #[27, 27] ty #[.slice none 0 0, .slice A m c]).run Tryd.prog W := by
  obtain ⟨i0, hi, _, hsz, hb⟩ := info_parts info5
  have hno : ¬ m ≤ 0 := by omega
  have hn0 : ¬ m = 0 := by omega
  have hbig : ¬ (9223372036854775807 : Int) < (m : Int) := by omega
  have hcap : Builtin.nextslicecap m 0 = m := by unfold Builtin.nextslicecap; rw [if_pos (by omega)]
  have hb2 : ¬ 281474976710656 < m := by omega
  simp [Builtin.append_, run_underlying Tryd.underlying27, sizeOf, typeInfo, hi, hsz, hb, Builtin.lenOf, Builtin.firstCells, hno, hn0, hbig, hcap, hb2, load_none]
theorem append_text (W : World) (A : Option Addr) (m c : Nat) (ad : Addr) (ty : TypeId) (ys : List Int) (hC : Kd.C (Kd.int .u8) W A m ys) (hl : m ≤ 140737488355328) :
    ∃ v1 w1, (Builtin.append_ #[27, 27] ty #[.slice (some ad) 0 0, .slice A m c]).run Tryd.prog W = .ok v1 w1 ∧ TxC w1 v1 ys ∧ Below W.heap.size W w1 := by
  obtain ⟨i0, hi, hz0, hsz, hb⟩ := info_parts info5
  rcases Nat.eq_zero_or_pos m with h0 | h0
  · subst h0
    obtain rfl : ys = [] := List.eq_nil_of_length_eq_zero hC.1
    refine ⟨.slice (some ad) 0 0, W, ?_, ⟨some ad, 0, rfl, Nat.le_refl _, rfl, by simp, fun h => absurd h (by simp)⟩, Below.refl _ _⟩
    cases A <;> simp [Builtin.append_, run_underlying Tryd.underlying27, sizeOf, typeInfo, hi, hsz, hb, Builtin.lenOf, Builtin.firstCells, load_none, storeCells]
  · rw [append_same W A m c ad ty h0 hl]
    obtain ⟨ad2, rfl, _⟩ := hC.2.2 h0
    obtain ⟨news, hnr, hnc⟩ := ReadsRow.inner_ hC
    have hlen : news.length = m * 1 := by rw [hnr.1, hC.1]; rfl
    have hone : ∀ u ∈ news, u.oneCell' = true := by
      intro u hu
      obtain ⟨q, hq, rfl⟩ := List.mem_iff_getElem.1 hu
      have hql : q < ys.length := by rw [hC.1]; omega
      have hc := hnr.2 q _ (List.getElem?_eq_getElem hql)
      refine (Kd.int .u8).K_one hc _ ?_
      rw [List.mem_iff_getElem?]
      refine ⟨0, ?_⟩
      rw [List.getElem?_take, if_pos (by decide), List.getElem?_drop]
      show news[q * 1 + 0]? = _
      rw [Nat.mul_one, Nat.add_zero, List.getElem?_eq_getElem hq]
    obtain ⟨v1, w1, hrun, h2, hg, _, hat⟩ := run_append_own_at (P := Tryd.prog) (w := W) W.heap.size 27 ty 5 i0 (.int .u8 0) 1 1 Tryd.underlying27 hi hz0 hsz hb rfl (by decide) (.slice none 0 0) 0 [] ⟨rfl, .inl ⟨rfl, rfl⟩⟩ ad2 m c news hlen hnc hone (by simp only [maxLen]; omega) (by omega) (Nat.le_refl _)
    refine ⟨v1, w1, hrun, ?_, ?_⟩
    · refine TxC.of_R (B := W.heap.size) (ok := fun _ => True) ⟨fun _ _ => trivial, [] ++ news, ?_, ?_⟩
      · have hy : ys.length = 0 + m := by rw [hC.1, Nat.zero_add]
        rw [hy]; exact h2
      · rw [List.nil_append]; exact hnr
    · exact (Below.refl _ _).grown hg (Nat.le_refl _) (fun b hb => by cases hb)
theorem append_text_step {ops : Array Oper} {o : Oper} {a : Act} {Q : Exit → Act → World → Prop} {Kc : Act → World → Prop} {W : World} (hw : Region.wanted o (yielded ops a.tmps) = true) (s x : Operand)
    (ho : o.op = .call { callee := .builtin .append, args := #[s, x], argTypes := #[27, 27] }) (ad : Addr) (A : Option Addr) (m c : Nat) (ys : List Int) (hs : a.eval s = .slice (some ad) 0 0) (hx : a.eval x = .slice A m c)
    (hC : Kd.C (Kd.int .u8) W A m ys) (hl : m ≤ 140737488355328) (h : ∀ v1 w1, TxC w1 v1 ys → Below W.heap.size W w1 → Kc (a.put o.dst v1) w1) :
    if Region.wanted o (yielded ops a.tmps) = true then Oper.wp Tryd.prog o a W Kc Q else Kc (a.put o.dst undef) W := by
  obtain ⟨v1, w1, hr1, h1, h2⟩ := append_text W A m c ad o.type ys hC hl
  rw [if_pos hw]
  unfold Oper.wp execOp
  simp only [ho, resolve, invoke, builtin, Sem.run_bind, Sem.run_pure, Result.andThen_ok, List.map_toArray, List.map_cons, List.map_nil, hs, hx, hr1]
  exact h v1 w1 h1 h2
end Go.Proofs.YtielnphmcaecdaaDoor.PAll
namespace Go.Proofs.YtielnphmcaecdaaDoor.PAll
open Go.IntWalk Go.RowKit Go.Proofs.YtielnphmcaecdaaDoorW.PrintWords Go.Proofs.YtielnphmcaecdaaDoorW.PrintLast Go.Proofs.YtielnphmcaecdaaDoorW.PrintMore
set_option linter.unusedVariables false
set_option linter.unusedSimpArgs false
theorem methSize (a0 a1 a2 a3 a4 a5 : Int) (w : World) : (method 302 82 (.agg #[.int .i64 a0, .int .i64 a1, .int .i64 a2, .int .u64 a3, .int .u64 a4, .int .u64 a5]) "Size").run Tryd.prog w = .ok (136, .agg #[.int .i64 a0, .int .i64 a1, .int .i64 a2, .int .u64 a3, .int .u64 a4, .int .u64 a5]) w := by kernel_rfl
set_option maxHeartbeats 4000000 in
theorem toySize.calls (a0 a1 a2 a3 a4 a5 : Int) (w : World) : Calls Tryd.prog 136 #[.agg #[.int .i64 a0, .int .i64 a1, .int .i64 a2, .int .u64 a3, .int .u64 a4, .int .u64 a5]] w fun e w' => e = .returned (.int .i64 a1) ∧ Below w.heap.size w w' := by
  go_enter Tryd.func136, Tryd.ntmps136
  go_wp2
  go_ret
  exact ⟨rfl, by repeat (first | exact Below.refl _ _ | apply below_alloc | apply pw_below_drewN | apply below_drew1)⟩
set_option maxHeartbeats 8000000 in
set_option maxRecDepth 100000 in
theorem rootFrom.calls (k : Nat) (a0 a1 a2 a3 a4 a5 : Int) (v : Value) (s : List Int) (A : Option Addr) (c : Nat) (l : List (List Int)) (idx size : Int) (m b : Int) (t r : List Int) (w : World) (hs : TxC w v s) (hr : Kd.C (Kd.slice 5 (Kd.int .u8)) w A l.length l) (hc : l.length ≤ c)
    (h1 : idx < size) (h2 : (s.length : Int) = a1) (hd : proof_decompInclProof.f k idx size = some (m, b)) (h0 : 0 ≤ m) (h0b : 0 ≤ b) (hl : (l.length : Int) = m + b)
    (hu : up_ (impl_toy_HashChildren.f k a0 a1 a2 a3 a4 a5) idx (l.take m.toNat) 0 s = some t) (hv : upB_ (impl_toy_HashChildren.f k a0 a1 a2 a3 a4 a5) (l.drop m.toNat) t = some r) :
    Calls Tryd.prog 107 #[.iface 82 (.agg #[.int .i64 a0, .int .i64 a1, .int .i64 a2, .int .u64 a3, .int .u64 a4, .int .u64 a5]), .int .u64 idx, .int .u64 size, v, .slice A l.length c] w fun e w' => ∃ v0_, e = .returned (.tuple #[v0_, .nilIface]) ∧ TxC w' v0_ r ∧ Below w.heap.size w w' := by
  obtain ⟨As, cs, rfl, hcs, hCs⟩ := hs
  have hs : TxC w (.slice As s.length cs) s := ⟨As, cs, rfl, hcs, hCs⟩
  clear hcs hCs
  have HR := Aside0.mk hr
  have HC := Aside0.mk hc
  have HS := Aside0.mk hs
  have HD := Aside0.mk hd
  have HL := Aside0.mk hl
  have HU := Aside0.mk hu
  have HV := Aside0.mk hv
  have hmax : l.length ≤ 9223372036854775807 := hr.2.1
  have hm : m.toNat ≤ l.length := by omega
  have hmi : m ≤ (l.length : Int) := by omega
  have g1 : decide (size ≤ idx) = false := decide_eq_false (by omega)
  have g2 : ((s.length : Int) != a1) = false := bne_eq_false_iff_eq.mpr h2
  have g3 : ((l.length : Int) != m + b) = false := bne_eq_false_iff_eq.mpr (by omega)
  have hmb : m + b ≤ 9223372036854775807 := by omega
  obtain ⟨i0, hi0, _, hsz, _⟩ := info_parts info27
  have hcut1 := cut_to (P := Tryd.prog) 25 27 .i64 Tryd.underlying25 hi0 A l.length c m h0 hmi hc
  have hcut2 := cut_from (P := Tryd.prog) 25 27 .i64 Tryd.underlying25 hi0 1 hsz A l.length c m h0 hmi
  have hr1 := Kd.C_take (m := m.toNat) hr hm
  have hr2 := Kd.C_drop (m := m.toNat) (c := c) hr hm hc
  have ht1 : (l.take m.toNat).length = m.toNat := by rw [List.length_take]; omega
  have ht2 : (l.drop m.toNat).length = l.length - m.toNat := by rw [List.length_drop]
  have hc1 : (l.take m.toNat).length ≤ c := by omega
  have hc2 : (l.drop m.toNat).length ≤ c - m.toNat := by omega
  obtain ⟨x1, hx1⟩ : ∃ x1, x1 = l.take m.toNat := ⟨_, rfl⟩
  obtain ⟨x2, hx2⟩ : ∃ x2, x2 = l.drop m.toNat := ⟨_, rfl⟩
  obtain ⟨A2, hA2⟩ : ∃ A2, A2 = (if c = m.toNat then A else (A : Option Addr).map (·.add (m.toNat * 1))) := ⟨_, rfl⟩
  obtain ⟨c2, hcc2⟩ : ∃ c2, c2 = c - m.toNat := ⟨_, rfl⟩
  rw [← hx1] at hr1 ht1 hc1 HU
  rw [← hx2] at hr2 ht2 hc2 HV
  replace hr2 : Kd.C (Kd.slice 5 (Kd.int .u8)) w A2 x2.length x2 := by rw [hA2]; exact hr2
  rw [← hA2, ← ht2, ← hcc2] at hcut2
  rw [← ht1] at hcut1
  rw [← hcc2] at hc2
  have HR1 := Aside0.mk hr1
  have HR2 := Aside0.mk hr2
  have HC1 := Aside0.mk hc1
  have HC2 := Aside0.mk hc2
  have HT1 := Aside0.mk ht1
  clear hr hc hs hd hl hu hv hr1 hr2 hc1 hc2 hx1 hx2 hA2 hcc2 ht2 ht1 h1 h2 hi0 hsz
  have hme := methSize a0 a1 a2 a3 a4 a5
  go_enter Tryd.func107, Tryd.ntmps107
  go_wp2_with (fail)
  refine (toySize.calls a0 a1 a2 a3 a4 a5 _).mono ?_
  rintro e w1 ⟨rfl, hb1⟩
  have HB1 := Aside0.mk hb1
  clear hb1
  dsimp only
  go_wp2_with (fail)
  refine (proof_decompInclProof.calls k idx size m b _ HD.out).mono ?_
  rintro e w2 ⟨rfl, hd2⟩
  obtain ⟨⟨nd, rfl⟩⟩ := hd2
  dsimp only
  go_wp2_with (fail)
  refine (chainInner.calls k a0 a1 a2 a3 a4 a5 (.slice As s.length cs) s A c x1 idx t _ ?b2 ?b3 HC1.out HU.out).mono ?_
  case b2 => exact (HS.out.below HB1.out).below (pw_below_drewN (Below.refl _ _) _)
  case b3 => exact Kd.C_drewN (Kd.C_below HR1.out HB1.out) _
  rintro e w3 ⟨v3, rfl, hR3, hb3⟩
  have HR3 := Aside0.mk hR3
  have HB3 := Aside0.mk ((pw_below_drewN HB1.out nd).trans (hb3.mono HB1.out.size))
  clear hR3 hb3
  dsimp only
  go_wp2_with (fail)
  refine (chainBorder.calls k a0 a1 a2 a3 a4 a5 v3 t A2 c2 x2 r _ ?b2 ?b3 HC2.out HV.out).mono ?_
  case b2 => exact HR3.out
  case b3 => exact Kd.C_below HR2.out HB3.out
  rintro e w4 ⟨v4, rfl, hR4, hb4⟩
  have HR4 := Aside0.mk hR4
  have HB4 := Aside0.mk (HB3.out.trans (hb4.mono HB3.out.size))
  clear hR4 hb4
  dsimp only
  go_wp2
  go_ret2
  exact ⟨_, rfl, HR4.out, HB4.out⟩
set_option maxHeartbeats 8000000 in
set_option maxRecDepth 100000 in
theorem verifyIncl.calls (k : Nat) (a0 a1 a2 a3 a4 a5 : Int) (v : Value) (s : List Int) (A : Option Addr) (c : Nat) (l : List (List Int)) (A2 : Option Addr) (c2 : Nat) (r2 : List Int) (idx size : Int) (m b : Int) (t r : List Int) (w : World) (hs : TxC w v s) (hr : Kd.C (Kd.slice 5 (Kd.int .u8)) w A l.length l) (hc : l.length ≤ c)
    (hr2 : Kd.C (Kd.int .u8) w A2 r2.length r2) (hc2 : r2.length ≤ c2)
    (h1 : idx < size) (h2 : (s.length : Int) = a1) (hd : proof_decompInclProof.f k idx size = some (m, b)) (h0 : 0 ≤ m) (h0b : 0 ≤ b) (hl : (l.length : Int) = m + b)
    (hu : up_ (impl_toy_HashChildren.f k a0 a1 a2 a3 a4 a5) idx (l.take m.toNat) 0 s = some t) (hv : upB_ (impl_toy_HashChildren.f k a0 a1 a2 a3 a4 a5) (l.drop m.toNat) t = some r) :
    Calls Tryd.prog 77 #[.iface 82 (.agg #[.int .i64 a0, .int .i64 a1, .int .i64 a2, .int .u64 a3, .int .u64 a4, .int .u64 a5]), .int .u64 idx, .int .u64 size, v, .slice A l.length c, .slice A2 r2.length c2] w fun e w' => ∃ x, e = .returned x ∧ OutV w' (vmat r r2) x ∧ Below w.heap.size w w' := by
  have HF := Aside0.mk (rootFrom.calls k a0 a1 a2 a3 a4 a5 v s A c l idx size m b t r w hs hr hc h1 h2 hd h0 h0b hl hu hv)
  have HR2 := Aside0.mk hr2
  have HC2 := Aside0.mk hc2
  clear hs hr hc hr2 hc2 h1 h2 hd h0 h0b hl hu hv
  go_enter Tryd.func77, Tryd.ntmps77
  go_wp2_with (fail)
  refine HF.out.mono ?_
  rintro e w1 ⟨v1, rfl, hT, hb⟩
  obtain ⟨A1, c1, rfl, hc1, hr1⟩ := hT
  have HR1 := Aside0.mk hr1
  have HC1 := Aside0.mk hc1
  have HB := Aside0.mk hb
  clear hr1 hc1 hb HF
  dsimp only
  go_wp2_with (fail)
  refine (verifyMatch.calls A1 c1 r A2 c2 r2 _ HR1.out HC1.out (Kd.C_below HR2.out HB.out) HC2.out).mono ?_
  rintro e w2 ⟨v2, rfl, hV, hb⟩
  have HV := Aside0.mk hV
  have HB2 := Aside0.mk (HB.out.trans (hb.mono HB.out.size))
  clear hV hb
  dsimp only
  go_wp2
  go_ret
  exact ⟨_, rfl, HV.out, HB2.out⟩
theorem up_mono {H H' : List Int → List Int → Option (List Int)} (h : ∀ a b, LeO (H a b) (H' a b)) (idx : Int) : ∀ l i s, LeO (up_ H idx l i s) (up_ H' idx l i s)
  | [], _, _ => LeO.refl _
  | x :: xs, i, s => by
    unfold up_
    refine LeO.bind ?_ (fun t => up_mono h idx xs (i + 1) t)
    split
    · exact h _ _
    · exact h _ _
theorem upBv_mono {H H' : List Int → List Int → Option (List Int)} (h : ∀ a b, LeO (H a b) (H' a b)) : ∀ l s, LeO (upB_ H l s) (upB_ H' l s)
  | [], _ => LeO.refl _
  | x :: xs, s => LeO.bind (h x s) (fun t => upBv_mono h xs t)
end Go.Proofs.YtielnphmcaecdaaDoor.PAll
namespace Go.Proofs.YtielnphmcaecdaaDoor.PAll
open Go.IntWalk Go.RowKit Go.Proofs.YtielnphmcaecdaaDoorW.PrintWords Go.Proofs.YtielnphmcaecdaaDoorW.PrintLast Go.Proofs.YtielnphmcaecdaaDoorW.PrintMore
set_option linter.unusedVariables false
set_option linter.unusedSimpArgs false
def impl_VerifyInclusion.f (k : Nat) (a0 a1 a2 a3 a4 a5 x1 x2 : Int) (r1 : List Int) (l : List (List Int)) (r2 : List Int) : Option (Int × List Int) :=
  if r1.length < 140737488355328 ∧ r2.length < 140737488355328 then (impl_texts.f k l).bind fun x => if x1 < x2 ∧ (r1.length : Int) = a1 then (proof_decompInclProof.f k x1 x2).bind fun p => if 0 ≤ p.1 ∧ 0 ≤ p.2 ∧ (x.length : Int) = p.1 + p.2 then (up_ (impl_toy_HashChildren.f k a0 a1 a2 a3 a4 a5) x1 (x.take p.1.toNat) 0 r1).bind fun t => (upB_ (impl_toy_HashChildren.f k a0 a1 a2 a3 a4 a5) (x.drop p.1.toNat) t).bind fun r => if r.length < 140737488355328 then some (vmat r r2) else none else none else none else none
theorem impl_VerifyInclusion.mono : ∀ a0 a1 a2 a3 a4 a5 x1 x2 r1 l r2 k, LeO (impl_VerifyInclusion.f k a0 a1 a2 a3 a4 a5 x1 x2 r1 l r2) (impl_VerifyInclusion.f (k + 1) a0 a1 a2 a3 a4 a5 x1 x2 r1 l r2) := by
  intro a0 a1 a2 a3 a4 a5 x1 x2 r1 l r2 k
  unfold impl_VerifyInclusion.f
  exact LeO.ite (LeO.bind (impl_texts.mono _ _) (fun x => LeO.ite (LeO.bind (proof_decompInclProof.mono _ _ _) (fun p => LeO.ite (LeO.bind (up_mono (fun a b => impl_toy_HashChildren.mono _ _ _ _ _ _ _ _ _) _ _ _ _) (fun t => LeO.bind (upBv_mono (fun a b => impl_toy_HashChildren.mono _ _ _ _ _ _ _ _ _) _ _) (fun r => LeO.refl _))) (LeO.refl _))) (LeO.refl _))) (LeO.refl _)
set_option maxHeartbeats 4000000 in
set_option maxRecDepth 100000 in
theorem impl_VerifyInclusion.calls (k : Nat) (a0 a1 a2 a3 a4 a5 x1 x2 : Int) (A1 : Option Addr) (c1 : Nat) (r1 : List Int) (A : Option Addr) (c : Nat) (l : List (List Int)) (A2 : Option Addr) (c2 : Nat) (r2 : List Int) (q1 : Int) (q2 : List Int) (w : World) (hG : Glob w)
    (hr1 : Kd.C (Kd.int .u8) w A1 r1.length r1) (hc1 : r1.length ≤ c1) (hr : Kd.C (Kd.slice 5 (Kd.int .u8)) w A l.length l) (hc : l.length ≤ c) (hr2 : Kd.C (Kd.int .u8) w A2 r2.length r2) (hc2 : r2.length ≤ c2)
    (h : impl_VerifyInclusion.f k a0 a1 a2 a3 a4 a5 x1 x2 r1 l r2 = some (q1, q2)) :
    Calls Tryd.prog 39 #[.agg #[.int .i64 a0, .int .i64 a1, .int .i64 a2, .int .u64 a3, .int .u64 a4, .int .u64 a5], .int .u64 x1, .int .u64 x2, .slice A1 r1.length c1, .slice A l.length c, .slice A2 r2.length c2] w fun e w' => ∃ v0_, e = .returned (.tuple #[.int .i64 q1, v0_]) ∧ Kd.R (Kd.int .u8) 5 w' w.heap.size (fun _ => True) v0_ q2 ∧ Below w.heap.size w w' := by
  unfold impl_VerifyInclusion.f at h
  by_cases hl : r1.length < 140737488355328 ∧ r2.length < 140737488355328
  case neg => rw [if_neg hl] at h; cases h
  rw [if_pos hl] at h
  obtain ⟨x, hx, h⟩ := Option.bind_eq_some_iff.mp h
  by_cases hs : x1 < x2 ∧ (r1.length : Int) = a1
  case neg => rw [if_neg hs] at h; cases h
  rw [if_pos hs] at h
  obtain ⟨⟨pm, pb⟩, hd, h⟩ := Option.bind_eq_some_iff.mp h
  dsimp only at h
  by_cases hp : 0 ≤ pm ∧ 0 ≤ pb ∧ (x.length : Int) = pm + pb
  case neg => rw [if_neg hp] at h; cases h
  rw [if_pos hp] at h
  obtain ⟨pt, ht, h⟩ := Option.bind_eq_some_iff.mp h
  obtain ⟨pr, hpr, h⟩ := Option.bind_eq_some_iff.mp h
  by_cases hol : pr.length < 140737488355328
  case neg => rw [if_neg hol] at h; cases h
  rw [if_pos hol] at h
  have h := Option.some.inj h
  have hol : (vmat pr r2).2.length < 140737488355328 := by
    unfold vmat
    split
    · decide
    · exact hol
  have HQ := Aside0.mk h
  have HD := Aside0.mk hd
  have HP := Aside0.mk hp
  have HPT := Aside0.mk ht
  have HPR := Aside0.mk hpr
  rw [h] at hol
  clear hd hp ht hpr
  have HR0 := Aside0.mk hr
  have HC0 := Aside0.mk hc
  have HR1 := Aside0.mk hr1
  have HC1 := Aside0.mk hc1
  have HR2 := Aside0.mk hr2
  have HC2 := Aside0.mk hc2
  have HXX := Aside0.mk hx
  have HS := Aside0.mk hs
  have HOL := Aside0.mk hol
  have HL1 := Aside0.mk hl.1
  have HL2 := Aside0.mk hl.2
  have HG := Aside0.mk hG
  clear hr hc hr1 hc1 hr2 hc2 hx hs hol hl h hG
  go_enter Tryd.func39, Tryd.ntmps39
  go_wp2
  have bk := blk_new w (Obj.cells #[.int .i64 a0, .int .i64 a1, .int .i64 a2, .int .u64 a3, .int .u64 a4, .int .u64 a5] 24)
  have HBw := Aside0.mk (below_alloc (Below.refl w.heap.size w) (Obj.cells #[.int .i64 a0, .int .i64 a1, .int .i64 a2, .int .u64 a3, .int .u64 a4, .int .u64 a5] 24))
  generalize w.alloc (Obj.cells #[.int .i64 a0, .int .i64 a1, .int .i64 a2, .int .u64 a3, .int .u64 a4, .int .u64 a5] 24) = W0 at bk HBw ⊢
  have y0 : W0.cell? ⟨w.heap.size, 0, none⟩ = some (.int .i64 a0) := blk_cell bk 0
  have y1 : W0.cell? ⟨w.heap.size, 1, none⟩ = some (.int .i64 a1) := blk_cell bk 1
  have y2 : W0.cell? ⟨w.heap.size, 2, none⟩ = some (.int .i64 a2) := blk_cell bk 2
  have y3 : W0.cell? ⟨w.heap.size, 3, none⟩ = some (.int .u64 a3) := blk_cell bk 3
  have y4 : W0.cell? ⟨w.heap.size, 4, none⟩ = some (.int .u64 a4) := blk_cell bk 4
  have y5 : W0.cell? ⟨w.heap.size, 5, none⟩ = some (.int .u64 a5) := blk_cell bk 5
  have HLT := Aside0.mk (show w.heap.size < W0.heap.size from (Array.getElem?_eq_some_iff.1 bk).1)
  have HBn := Aside0.mk (Below.refl W0.heap.size W0)
  have HL := Aside0.mk (Below.refl W0.heap.size W0)
  replace HG := Aside0.mk (HG.out.below HBw.out)
  clear bk
  go_region_held_law (fun w' => w'.cell? ⟨w.heap.size, 0, none⟩ = some (.int .i64 a0) ∧ w'.cell? ⟨w.heap.size, 1, none⟩ = some (.int .i64 a1) ∧ w'.cell? ⟨w.heap.size, 2, none⟩ = some (.int .i64 a2) ∧ w'.cell? ⟨w.heap.size, 3, none⟩ = some (.int .u64 a3) ∧ w'.cell? ⟨w.heap.size, 4, none⟩ = some (.int .u64 a4) ∧ w'.cell? ⟨w.heap.size, 5, none⟩ = some (.int .u64 a5)) (first | exact ⟨v0_, v1_, v2_, v3_, v4_, v5_⟩ | exact ⟨y0, y1, y2, y3, y4, y5⟩ | go_keep) (first
          | (refine append_text_step ?hw (.tmp 19) (.tmp 20) rfl _ A1 r1.length c1 r1 rfl rfl ?aC ?aL ?_
             (case hw => simp [Region.wanted])
             (case aC => exact Kd.C_below HR1.out (by repeat (first | exact HBw.out | apply below_alloc | apply Below.drew | apply pw_below_drewN | apply below_drew)))
             (case aL => exact Nat.le_of_lt HL1.out)
             intro u1 wq hT hB
             have HT1 := Aside0.mk hT
             have hmv := below_step (by repeat (first | exact HL.out | apply below_alloc | apply Below.drew | apply pw_below_drewN | apply below_drew)) hB
             have HBn := Aside0.mk (HBn.out.trans (hmv.mono HBn.out.size))
             have HBw := Aside0.mk (HBw.out.trans (hmv.mono HBw.out.size))
             have v0_ := (HBn.out.cell (p := ⟨w.heap.size, 0, none⟩) HLT.out).trans y0
             have v1_ := (HBn.out.cell (p := ⟨w.heap.size, 1, none⟩) HLT.out).trans y1
             have v2_ := (HBn.out.cell (p := ⟨w.heap.size, 2, none⟩) HLT.out).trans y2
             have v3_ := (HBn.out.cell (p := ⟨w.heap.size, 3, none⟩) HLT.out).trans y3
             have v4_ := (HBn.out.cell (p := ⟨w.heap.size, 4, none⟩) HLT.out).trans y4
             have v5_ := (HBn.out.cell (p := ⟨w.heap.size, 5, none⟩) HLT.out).trans y5
             try have HX := Aside0.mk (Kd.C_below HX.out hmv)
             try have HT2 := Aside0.mk (HT2.out.below hmv)
             have HG := Aside0.mk (HG.out.below hmv)
             have HL := Aside0.mk (Below.refl wq.heap.size wq)
             clear hT hB hmv)
          | (refine append_text_step ?hw (.tmp 24) (.tmp 25) rfl _ A2 r2.length c2 r2 rfl rfl ?aC ?aL ?_
             (case hw => simp [Region.wanted])
             (case aC => exact Kd.C_below HR2.out (by repeat (first | exact HBw.out | apply below_alloc | apply Below.drew | apply pw_below_drewN | apply below_drew)))
             (case aL => exact Nat.le_of_lt HL2.out)
             intro u2 wq hT hB
             have HT2 := Aside0.mk hT
             have hmv := below_step (by repeat (first | exact HL.out | apply below_alloc | apply Below.drew | apply pw_below_drewN | apply below_drew)) hB
             have HBn := Aside0.mk (HBn.out.trans (hmv.mono HBn.out.size))
             have HBw := Aside0.mk (HBw.out.trans (hmv.mono HBw.out.size))
             have v0_ := (HBn.out.cell (p := ⟨w.heap.size, 0, none⟩) HLT.out).trans y0
             have v1_ := (HBn.out.cell (p := ⟨w.heap.size, 1, none⟩) HLT.out).trans y1
             have v2_ := (HBn.out.cell (p := ⟨w.heap.size, 2, none⟩) HLT.out).trans y2
             have v3_ := (HBn.out.cell (p := ⟨w.heap.size, 3, none⟩) HLT.out).trans y3
             have v4_ := (HBn.out.cell (p := ⟨w.heap.size, 4, none⟩) HLT.out).trans y4
             have v5_ := (HBn.out.cell (p := ⟨w.heap.size, 5, none⟩) HLT.out).trans y5
             try have HX := Aside0.mk (Kd.C_below HX.out hmv)
             try have HT1 := Aside0.mk (HT1.out.below hmv)
             have HG := Aside0.mk (HG.out.below hmv)
             have HL := Aside0.mk (Below.refl wq.heap.size wq)
             clear hT hB hmv)
          | (go_simp
             go_at_call 45
             refine (impl_texts.calls k A c l x _ ?s1 HC0.out HXX.out).mono ?_
             (case s1 => exact Kd.C_below HR0.out (by repeat (first | exact HBw.out | apply below_alloc | apply Below.drew | apply pw_below_drewN | apply below_drew)))
             rintro e wq ⟨v3, rfl, hS3, hB⟩
             obtain ⟨Ax, cx, rfl⟩ := Kd.S_slice hS3
             obtain ⟨_, hcx, hCx⟩ := Kd.S_reads' hS3
             have HCX := Aside0.mk hcx
             have HX := Aside0.mk hCx
             clear hS3 hcx hCx
             have hmv := below_step (by repeat (first | exact HL.out | apply below_alloc | apply Below.drew | apply pw_below_drewN | apply below_drew)) hB
             have HBn := Aside0.mk (HBn.out.trans (hmv.mono HBn.out.size))
             have HBw := Aside0.mk (HBw.out.trans (hmv.mono HBw.out.size))
             have v0_ := (HBn.out.cell (p := ⟨w.heap.size, 0, none⟩) HLT.out).trans y0
             have v1_ := (HBn.out.cell (p := ⟨w.heap.size, 1, none⟩) HLT.out).trans y1
             have v2_ := (HBn.out.cell (p := ⟨w.heap.size, 2, none⟩) HLT.out).trans y2
             have v3_ := (HBn.out.cell (p := ⟨w.heap.size, 3, none⟩) HLT.out).trans y3
             have v4_ := (HBn.out.cell (p := ⟨w.heap.size, 4, none⟩) HLT.out).trans y4
             have v5_ := (HBn.out.cell (p := ⟨w.heap.size, 5, none⟩) HLT.out).trans y5
             try have HT1 := Aside0.mk (HT1.out.below hmv)
             try have HT2 := Aside0.mk (HT2.out.below hmv)
             have HG := Aside0.mk (HG.out.below hmv)
             have HL := Aside0.mk (Below.refl wq.heap.size wq)
             clear hB hmv)
          | (go_simp
             go_at_call 77
             obtain ⟨B2, d2, e2, hd2, hD2⟩ := HT2.out
             subst e2
             refine (verifyIncl.calls k a0 a1 a2 a3 a4 a5 u1 r1 Ax cx x B2 d2 r2 x1 x2 pm pb pt pr _ ?s0 ?s1 HCX.out ?s3 hd2 HS.out.1 HS.out.2 HD.out HP.out.1 HP.out.2.1 HP.out.2.2 HPT.out HPR.out).mono ?_
             (case s0 => exact HT1.out.below (by repeat (first | exact HL.out | apply below_alloc | apply Below.drew | apply pw_below_drewN | apply below_drew)))
             (case s1 => exact Kd.C_below HX.out (by repeat (first | exact HL.out | apply below_alloc | apply Below.drew | apply pw_below_drewN | apply below_drew)))
             (case s3 => exact Kd.C_below hD2 (by repeat (first | exact HL.out | apply below_alloc | apply Below.drew | apply pw_below_drewN | apply below_drew)))
             rintro e wq ⟨v4, rfl, hV4, hB⟩
             rw [HQ.out] at hV4
             have HV4 := Aside0.mk hV4
             clear hV4 hd2 hD2 HT1 HT2
             have hmv := below_step (by repeat (first | exact HL.out | apply below_alloc | apply Below.drew | apply pw_below_drewN | apply below_drew)) hB
             have HBn := Aside0.mk (HBn.out.trans (hmv.mono HBn.out.size))
             have HBw := Aside0.mk (HBw.out.trans (hmv.mono HBw.out.size))
             have v0_ := (HBn.out.cell (p := ⟨w.heap.size, 0, none⟩) HLT.out).trans y0
             have v1_ := (HBn.out.cell (p := ⟨w.heap.size, 1, none⟩) HLT.out).trans y1
             have v2_ := (HBn.out.cell (p := ⟨w.heap.size, 2, none⟩) HLT.out).trans y2
             have v3_ := (HBn.out.cell (p := ⟨w.heap.size, 3, none⟩) HLT.out).trans y3
             have v4_ := (HBn.out.cell (p := ⟨w.heap.size, 4, none⟩) HLT.out).trans y4
             have v5_ := (HBn.out.cell (p := ⟨w.heap.size, 5, none⟩) HLT.out).trans y5
             try have HX := Aside0.mk (Kd.C_below HX.out hmv)
             try have HT1 := Aside0.mk (HT1.out.below hmv)
             try have HT2 := Aside0.mk (HT2.out.below hmv)
             have HG := Aside0.mk (HG.out.below hmv)
             have HL := Aside0.mk (Below.refl wq.heap.size wq)
             clear hB hmv)
          | (go_simp
             go_at_call 74
             refine (verdict.calls (q1, q2) _ _ ?s0 HOL.out).mono ?_
             (case s0 => exact HV4.out)
             rintro e wq ⟨v5, rfl, hR5, hB⟩
             have HR5 := Aside0.mk (Kd.R_lower hR5 HBw.out.size)
             have hmv := below_step (by repeat (first | exact HL.out | apply below_alloc | apply Below.drew | apply pw_below_drewN | apply below_drew)) hB
             have HBn := Aside0.mk (HBn.out.trans (hmv.mono HBn.out.size))
             have HBw := Aside0.mk (HBw.out.trans (hmv.mono HBw.out.size))
             have v0_ := (HBn.out.cell (p := ⟨w.heap.size, 0, none⟩) HLT.out).trans y0
             have v1_ := (HBn.out.cell (p := ⟨w.heap.size, 1, none⟩) HLT.out).trans y1
             have v2_ := (HBn.out.cell (p := ⟨w.heap.size, 2, none⟩) HLT.out).trans y2
             have v3_ := (HBn.out.cell (p := ⟨w.heap.size, 3, none⟩) HLT.out).trans y3
             have v4_ := (HBn.out.cell (p := ⟨w.heap.size, 4, none⟩) HLT.out).trans y4
             have v5_ := (HBn.out.cell (p := ⟨w.heap.size, 5, none⟩) HLT.out).trans y5
             try have HX := Aside0.mk (Kd.C_below HX.out hmv)
             try have HT1 := Aside0.mk (HT1.out.below hmv)
             try have HT2 := Aside0.mk (HT2.out.below hmv)
             have HG := Aside0.mk (HG.out.below hmv)
             clear hR5 hB hmv))
  all_goals first
    | (go_step; go_wp2; go_ret2; exact ⟨_, rfl, HR5.out, HBw.out⟩)
    | (go_step; go_wp2; refine ⟨rfl, _, results_tmp2 (fn := Tryd.f39) rfl _ _ _, ?_⟩; exact ⟨_, rfl, HR5.out, HBw.out⟩)
    | (go_wp2; go_ret2; exact ⟨_, rfl, HR5.out, HBw.out⟩)
    | (go_wp2; refine ⟨rfl, _, results_tmp2 (fn := Tryd.f39) rfl _ _ _, ?_⟩; exact ⟨_, rfl, HR5.out, HBw.out⟩)
end Go.Proofs.YtielnphmcaecdaaDoor.PAll
