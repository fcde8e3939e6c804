-- Written by a program of this session (wip/tools)
import Derived.Test.YtielnphmcaecdaaDoorQTTExtRangeO
set_option maxHeartbeats 8000000
set_option maxRecDepth 100000
set_option linter.unusedVariables false
set_option linter.unusedSimpArgs false
namespace Go.Proofs.YtielnphmcaecdaaDoor.PAll
open Go.IntWalk Go.RowKit Go.Proofs.YtielnphmcaecdaaDoor.Num Go.Proofs.YtielnphmcaecdaaDoor.Mth Go.Proofs.YtielnphmcaecdaaDoorW.PrintWords Go.Proofs.YtielnphmcaecdaaDoorW.PrintLast Go.Proofs.YtielnphmcaecdaaDoorW.PrintMore
theorem five (w : World) (o0 o1 o2 o3 o4 : Obj) : (((((w.alloc o0).alloc o1).alloc o2).alloc o3).alloc o4).heap[w.heap.size + 1]? = some o1 ∧ (((((w.alloc o0).alloc o1).alloc o2).alloc o3).alloc o4).heap[w.heap.size + 1 + 1]? = some o2 ∧ (((((w.alloc o0).alloc o1).alloc o2).alloc o3).alloc o4).heap[w.heap.size + 1 + 1 + 1]? = some o3 ∧ (((((w.alloc o0).alloc o1).alloc o2).alloc o3).alloc o4).heap[w.heap.size + 1 + 1 + 1 + 1]? = some o4 ∧ Below w.heap.size w (((((w.alloc o0).alloc o1).alloc o2).alloc o3).alloc o4) := by
 obtain ⟨f1, f2, f3, f4⟩ := four w o0 o1 o2 o3
 have s4 : ((((w.alloc o0).alloc o1).alloc o2).alloc o3).heap.size = w.heap.size + 1 + 1 + 1 + 1 := by rw [World.size_alloc, World.size_alloc, World.size_alloc, World.size_alloc]
 have b4 := blk_new ((((w.alloc o0).alloc o1).alloc o2).alloc o3) o4
 rw [s4] at b4
 exact ⟨blk_alloc f1 _, blk_alloc f2 _, blk_alloc f3 _, b4, below_alloc f4 _⟩
theorem impl_AppendRange.calls (k : Nat) (a0 a1 a2 a3 a4 a5 b e : Int) (A : Option Addr) (c : Nat) (hs : List (List Int)) (b2 e2 : Int) (A2 : Option Addr) (c2 : Nat) (hs2 : List (List Int)) (r0 r1 : Int) (r2 : List (List Int)) (r3 : List S51) (r4 : Bool) (w : World) (hG : Glob w)
 (hr : Kd.C (Kd.slice 5 (Kd.int .u8)) w A hs.length hs) (hc : hs.length ≤ c) (hr2 : Kd.C (Kd.slice 5 (Kd.int .u8)) w A2 hs2.length hs2) (hc2 : hs2.length ≤ c2) (h : impl_AppendRange.f k a0 a1 a2 a3 a4 a5 b e hs b2 e2 hs2 = some (r0, r1, r2, r3, r4)) :
 Calls Tryd.prog 19 #[.agg #[.int .i64 a0, .int .i64 a1, .int .i64 a2, .int .u64 a3, .int .u64 a4, .int .u64 a5], .agg #[.int .u64 b, .int .u64 e, .slice A hs.length c], .agg #[.int .u64 b2, .int .u64 e2, .slice A2 hs2.length c2]] w fun ex w' => ∃ v0 v1, ex = .returned (.tuple #[.agg #[.int .u64 r0, .int .u64 r1, v0], v1, .bool r4]) ∧ Kd.S (Kd.slice 5 (Kd.int .u8)) 27 w' w.heap.size (fun _ => True) v0 r2 ∧ Kd.S k51 51 w' w.heap.size (fun _ => True) v1 r3 ∧ Below w.heap.size w w' := by
 unfold impl_AppendRange.f at h
 by_cases hq : (0 ≤ b ∧ b ≤ e ∧ e < 18446744073709551616) ∧ compact_RangeSize.f k b e = some (hs.length : Int) ∧ b2 ≤ e2 ∧ compact_RangeSize.f k b2 e2 = some (hs2.length : Int)
 case neg => rw [if_neg hq] at h; cases h
 rw [if_pos hq] at h
 obtain ⟨⟨hb0, hbe, he64⟩, hrs, hbe2, hrs2⟩ := hq
 obtain ⟨xs, hxs, h⟩ := Option.bind_eq_some_iff.mp h
 obtain ⟨ys, hys, h⟩ := Option.bind_eq_some_iff.mp h
 by_cases hlen : xs.length = hs.length ∧ ys.length = hs2.length
 case neg => rw [if_neg hlen] at h; cases h
 rw [if_pos hlen] at h
 have HG := Aside0.mk hG
 have HR := Aside0.mk hr
 have HC := Aside0.mk hc
 have HR2 := Aside0.mk hr2
 have HC2 := Aside0.mk hc2
 have HRS := Aside0.mk hrs
 have HRS2 := Aside0.mk hrs2
 have HXS := Aside0.mk hxs
 have HYS := Aside0.mk hys
 have HL1 := Aside0.mk hlen.1
 have HL2 := Aside0.mk hlen.2
 have HH := Aside0.mk h
 have HE := Aside0.mk hbe
 have HE2 := Aside0.mk hbe2
 have HB0 := Aside0.mk hb0
 have H64 := Aside0.mk he64
 clear hG hr hc hr2 hc2 hrs hrs2 hxs hys hlen h hbe hbe2 hb0 he64
 go_enter Tryd.func19, Tryd.ntmps19
 go_wp2_with (fail)
 obtain ⟨f1, f2, f3, f4, f5⟩ := five w (Obj.cells #[Value.int IntKind.i64 a0, Value.int IntKind.i64 a1, Value.int IntKind.i64 a2, Value.int IntKind.u64 a3, Value.int IntKind.u64 a4, Value.int IntKind.u64 a5] 24) (Obj.cells #[Value.int IntKind.u64 b, Value.int IntKind.u64 e, Value.slice A hs.length c] 34) (Obj.cells #[Value.int IntKind.u64 b2, Value.int IntKind.u64 e2, Value.slice A2 hs2.length c2] 34) (Obj.cells #[Value.int IntKind.u64 0, Value.int IntKind.u64 0, Value.slice none 0 0] 34) (Obj.cells #[Value.func (Fn.func 50) #[Value.agg #[Value.int IntKind.i64 a0, Value.int IntKind.i64 a1, Value.int IntKind.i64 a2, Value.int IntKind.u64 a3, Value.int IntKind.u64 a4, Value.int IntKind.u64 a5]] #[]] 92)
 generalize (((((w.alloc (Obj.cells #[Value.int IntKind.i64 a0, Value.int IntKind.i64 a1, Value.int IntKind.i64 a2, Value.int IntKind.u64 a3, Value.int IntKind.u64 a4, Value.int IntKind.u64 a5] 24)).alloc (Obj.cells #[Value.int IntKind.u64 b, Value.int IntKind.u64 e, Value.slice A hs.length c] 34)).alloc (Obj.cells #[Value.int IntKind.u64 b2, Value.int IntKind.u64 e2, Value.slice A2 hs2.length c2] 34)).alloc (Obj.cells #[Value.int IntKind.u64 0, Value.int IntKind.u64 0, Value.slice none 0 0] 34)).alloc (Obj.cells #[Value.func (Fn.func 50) #[Value.agg #[Value.int IntKind.i64 a0, Value.int IntKind.i64 a1, Value.int IntKind.i64 a2, Value.int IntKind.u64 a3, Value.int IntKind.u64 a4, Value.int IntKind.u64 a5]] #[]] 92)) = W0 at f1 f2 f3 f4 f5 ⊢
 obtain ⟨g1, hg1⟩ : ∃ g, g = w.heap.size + 1 := ⟨_, rfl⟩
 obtain ⟨go, hg2⟩ : ∃ g, g = w.heap.size + 1 + 1 := ⟨_, rfl⟩
 obtain ⟨g2, hg3⟩ : ∃ g, g = w.heap.size + 1 + 1 + 1 := ⟨_, rfl⟩
 obtain ⟨fq, hg4⟩ : ∃ g, g = w.heap.size + 1 + 1 + 1 + 1 := ⟨_, rfl⟩
 rw [← hg1] at f1
 rw [← hg2] at f2
 rw [← hg3] at f3
 rw [← hg4] at f4
 rw [← hg4, ← hg3, ← hg2, ← hg1]
 have y0 : W0.cell? ⟨g1, 0, none⟩ = some (.int .u64 b) := blk_cell f1 0
 have y1 : W0.cell? ⟨g1, 1, none⟩ = some (.int .u64 e) := blk_cell f1 1
 have y2 : W0.cell? ⟨g1, 2, none⟩ = some (.slice A hs.length c) := blk_cell f1 2
 have BO := Aside0.mk f2
 have BR := Aside0.mk f3
 have BF := Aside0.mk f4
 have HB := Aside0.mk f5
 have HG1 := Aside0.mk (blk_lt f1)
 have HB_ := Aside0.mk (below_size f5)
 have HW1 := Aside0.mk (show w.heap.size ≤ g1 ∧ w.heap.size ≤ g2 ∧ w.heap.size ≤ fq ∧ w.heap.size ≤ go by omega)
 clear f1 f2 f3 f4 f5 hg1 hg2 hg3 hg4
 go_region_held_law (fun w' => w'.cell? ⟨g1, 0, none⟩ = some (.int .u64 b) ∧ w'.cell? ⟨g1, 1, none⟩ = some (.int .u64 e) ∧ w'.cell? ⟨g1, 2, none⟩ = some (.slice A hs.length c)) (first | exact ⟨u0_, u1_, u2_⟩ | exact ⟨v0_, v1_, v2_⟩ | exact ⟨y0, y1, y2⟩ | go_keep) (first
  | (
   go_simp; go_at_call 45
   have hbd : Below W0.heap.size W0 W0.drew := below_drew (Below.refl _ _)
   have hbw : Below w.heap.size w W0.drew := below_step HB.out hbd
   refine (impl_texts.calls k A c hs xs _ (Kd.C_below HR.out hbw) HC.out HXS.out).mono ?_
   rintro ex wq ⟨v3, rfl, hS3, hb3⟩
   have HB3 := Aside0.mk (show Below W0.heap.size W0 wq from below_step hbd hb3)
   have HS3 := Aside0.mk (Kd.S_lower hS3 (below_size hbw))
   obtain ⟨A3, c3, rfl⟩ := Kd.S_slice hS3
   have v0_ := (HB3.out.cell (p := ⟨g1, 0, none⟩) HG1.out).trans y0
   have v1_ := (HB3.out.cell (p := ⟨g1, 1, none⟩) HG1.out).trans y1
   have v2_ := (HB3.out.cell (p := ⟨g1, 2, none⟩) HG1.out).trans y2
   clear hS3 hb3 hbw hbd)
  | (
   go_simp; go_at_call 51
   refine (newRange.calls k fq b e A3 xs.length c3 _ (HG.out.below (below_step HB.out HB3.out)) (HE.out) (by rw [HL1.out]; exact HRS.out)).mono ?_
   rintro ex wn ⟨nd, rfl, rfl⟩
   have hp : ((wq.drewN nd).alloc (Obj.cells #[.pointer (some ⟨fq, 0, none⟩), .int .u64 b, .int .u64 e, .slice A3 xs.length c3] 148)).heap[wq.heap.size]? = some (Obj.cells #[.pointer (some ⟨fq, 0, none⟩), .int .u64 b, .int .u64 e, .slice A3 xs.length c3] 148) := blk_new (wq.drewN nd) _
   have hbn : Below W0.heap.size W0 ((wq.drewN nd).alloc (Obj.cells #[.pointer (some ⟨fq, 0, none⟩), .int .u64 b, .int .u64 e, .slice A3 xs.length c3] 148)) := below_alloc (pw_below_drewN HB3.out nd) _
   have hSn := Kd.S_alloc (Kd.S_drewN HS3.out nd) (Obj.cells #[.pointer (some ⟨fq, 0, none⟩), .int .u64 b, .int .u64 e, .slice A3 xs.length c3] 148)
   have hpp : W0.heap.size ≤ wq.heap.size := below_size HB3.out
   generalize (wq.drewN nd).alloc (Obj.cells #[.pointer (some ⟨fq, 0, none⟩), .int .u64 b, .int .u64 e, .slice A3 xs.length c3] 148) = wn at hp hbn hSn ⊢
   generalize wq.heap.size = p at hp hpp ⊢
   have HP := Aside0.mk hp
   have HBN := Aside0.mk hbn
   have HSN := Aside0.mk hSn
   have HPP := Aside0.mk hpp
   have u0_ := (HBN.out.cell (p := ⟨g1, 0, none⟩) HG1.out).trans y0
   have u1_ := (HBN.out.cell (p := ⟨g1, 1, none⟩) HG1.out).trans y1
   have u2_ := (HBN.out.cell (p := ⟨g1, 2, none⟩) HG1.out).trans y2
   clear hp hbn hSn hpp)
  | fail)
 go_wp2_with (fail)
 have HBW := Aside0.mk (show Below w.heap.size w wn from below_step HB.out HBN.out)
 have hbo := blk_below BO.out HBN.out
 have y0b : wn.cell? ⟨go, 0, none⟩ = some (.int .u64 b2) := blk_cell hbo 0
 have y1b : wn.cell? ⟨go, 1, none⟩ = some (.int .u64 e2) := blk_cell hbo 1
 have y2b : wn.cell? ⟨go, 2, none⟩ = some (.slice A2 hs2.length c2) := blk_cell hbo 2
 have HG2 := Aside0.mk (blk_lt hbo)
 have BR2 := Aside0.mk (blk_below BR.out HBN.out)
 have BF2 := Aside0.mk (blk_below BF.out HBN.out)
 clear u0_ u1_ u2_ v0_ v1_ v2_ y0 y1 y2 HB3 HS3 HBN BF BR HB HG1 HR hbo BO
 go_region_held_law (fun w' => w'.cell? ⟨go, 0, none⟩ = some (.int .u64 b2) ∧ w'.cell? ⟨go, 1, none⟩ = some (.int .u64 e2) ∧ w'.cell? ⟨go, 2, none⟩ = some (.slice A2 hs2.length c2)) (first | exact ⟨u0b_, u1b_, u2b_⟩ | exact ⟨v0b_, v1b_, v2b_⟩ | exact ⟨y0b, y1b, y2b⟩ | go_keep) (first
  | (
   go_simp; go_at_call 45
   have hbd : Below wn.heap.size wn wn.drew := below_drew (Below.refl _ _)
   have hbw : Below w.heap.size w wn.drew := below_step HBW.out hbd
   refine (impl_texts.calls k A2 c2 hs2 ys _ (Kd.C_below HR2.out hbw) HC2.out HYS.out).mono ?_
   rintro ex wq2 ⟨v3, rfl, hS3, hb3⟩
   have HB3b := Aside0.mk (show Below wn.heap.size wn wq2 from below_step hbd hb3)
   have HS3b := Aside0.mk (Kd.S_lower hS3 (below_size hbd))
   obtain ⟨A4, c4, rfl⟩ := Kd.S_slice hS3
   have v0b_ := (HB3b.out.cell (p := ⟨go, 0, none⟩) HG2.out).trans y0b
   have v1b_ := (HB3b.out.cell (p := ⟨go, 1, none⟩) HG2.out).trans y1b
   have v2b_ := (HB3b.out.cell (p := ⟨go, 2, none⟩) HG2.out).trans y2b
   clear hS3 hb3 hbw hbd)
  | (
   go_simp; go_at_call 51
   refine (newRange.calls k fq b2 e2 A4 ys.length c4 _ (HG.out.below (below_step HBW.out HB3b.out)) (HE2.out) (by rw [HL2.out]; exact HRS2.out)).mono ?_
   rintro ex wn2 ⟨nd, rfl, rfl⟩
   have hp : ((wq2.drewN nd).alloc (Obj.cells #[.pointer (some ⟨fq, 0, none⟩), .int .u64 b2, .int .u64 e2, .slice A4 ys.length c4] 148)).heap[wq2.heap.size]? = some (Obj.cells #[.pointer (some ⟨fq, 0, none⟩), .int .u64 b2, .int .u64 e2, .slice A4 ys.length c4] 148) := blk_new (wq2.drewN nd) _
   have hbn : Below wn.heap.size wn ((wq2.drewN nd).alloc (Obj.cells #[.pointer (some ⟨fq, 0, none⟩), .int .u64 b2, .int .u64 e2, .slice A4 ys.length c4] 148)) := below_alloc (pw_below_drewN HB3b.out nd) _
   have hSn := Kd.S_alloc (Kd.S_drewN HS3b.out nd) (Obj.cells #[.pointer (some ⟨fq, 0, none⟩), .int .u64 b2, .int .u64 e2, .slice A4 ys.length c4] 148)
   have hpp : wn.heap.size ≤ wq2.heap.size := below_size HB3b.out
   generalize (wq2.drewN nd).alloc (Obj.cells #[.pointer (some ⟨fq, 0, none⟩), .int .u64 b2, .int .u64 e2, .slice A4 ys.length c4] 148) = wn2 at hp hbn hSn ⊢
   generalize wq2.heap.size = py at hp hpp ⊢
   have HPb := Aside0.mk hp
   have HBNb := Aside0.mk hbn
   have HSNb := Aside0.mk hSn
   have HPPb := Aside0.mk hpp
   have u0b_ := (HBNb.out.cell (p := ⟨go, 0, none⟩) HG2.out).trans y0b
   have u1b_ := (HBNb.out.cell (p := ⟨go, 1, none⟩) HG2.out).trans y1b
   have u2b_ := (HBNb.out.cell (p := ⟨go, 2, none⟩) HG2.out).trans y2b
   clear hp hbn hSn hpp)
  | fail)
 go_wp2_with (fail)
 have hqn := blk_new wn2 (Obj.cells #[Value.slice none 0 0] 36)
 have hba : Below wn.heap.size wn (wn2.alloc (Obj.cells #[Value.slice none 0 0] 36)) := below_alloc HBNb.out _
 have HBQ := Aside0.mk hba
 have HPX := Aside0.mk (blk_below HP.out hba)
 have HPY := Aside0.mk (blk_alloc HPb.out (Obj.cells #[Value.slice none 0 0] 36))
 have HSX := Aside0.mk (Kd.S_below HSN.out hba)
 have HSY := Aside0.mk (Kd.S_alloc HSNb.out (Obj.cells #[Value.slice none 0 0] 36))
 have HFQ := Aside0.mk (blk_below BF2.out hba)
 have HRQ := Aside0.mk (blk_below BR2.out hba)
 have hqs : w.heap.size ≤ wn2.heap.size := Nat.le_trans HBW.out.size HBNb.out.size
 generalize wn2.alloc (Obj.cells #[Value.slice none 0 0] 36) = Wq at hqn hba HBQ HPX HPY HSX HSY HFQ HRQ ⊢
 generalize wn2.heap.size = q at hqn hqs ⊢
 have HQS := Aside0.mk hqs
 clear hqs u0b_ u1b_ u2b_ v0b_ v1b_ v2b_ y0b y1b y2b HB3b HS3b HBNb HSNb HPb BF2 BR2 hba HR2
 obtain ⟨ss, hsl, hRw, hTx⟩ := rows_SH (Kd.S_R HSX.out)
 obtain ⟨st, htl, hRt, hTt⟩ := rows_SH (Kd.S_R HSY.out)
 have hap : ∀ g, (Value.slice A4 st.length c4).ownBlock = some g → some g ≠ (Value.slice A3 ss.length c3).ownBlock := fun g hk e => by
  have h1 := Kd.S_base HSY.out g (by rw [own_at A4 ys.length st.length c4 c4]; exact hk)
  have h2 := Kd.S_lt HSN.out g (by rw [own_at A3 xs.length ss.length c3 c3]; exact e.symm)
  omega
 have HRG := Aside0.mk (show RgAt Wq w.heap.size p fq a0 a1 a2 a3 a4 a5 b e A3 c3 ss xs from ⟨by rw [hsl]; exact HPX.out, HFQ.out, by rw [hsl]; exact hRw, hsl, hTx⟩)
 have HY := Aside0.mk (show Rw Wq w.heap.size (.slice A4 st.length c4) st by rw [htl]; exact Kd.R_lower hRt HBW.out.size)
 have HYT := Aside0.mk (show ∀ (j : Nat) (s : SH) (x : List Int), st[j]? = some s → ys[j]? = some x → Txt w.heap.size Wq s x from fun j s x h1 h2 => Txt.of_R (hTt j s x h1 h2) HBW.out.size)
 have HPY2 := Aside0.mk (show Wq.heap[py]? = some (.cells #[.pointer (some ⟨fq, 0, none⟩), .int .u64 b2, .int .u64 e2, .slice A4 st.length c4] 148 (0, 0)) by rw [htl]; exact HPY.out)
 have HXP := Aside0.mk (show py ≠ p by have := blk_lt HP.out; have := HPPb.out; omega)
 have HTL := Aside0.mk htl
 have HAP := Aside0.mk hap
 have HQ := Aside0.mk hqn
 have HBF := Aside0.mk (below_step HBW.out HBQ.out)
 have HPW := Aside0.mk (show w.heap.size ≤ p ∧ w.heap.size ≤ py from ⟨Nat.le_trans (Nat.le_refl _) (Nat.le_trans HB_.out HPP.out), Nat.le_trans HBW.out.size HPPb.out⟩)
 clear hsl htl hRw hRt hTx hTt hap hqn HSX HSY HPY HPX HP HSN HBW HBQ HFQ HPP HPPb
 have h := HH.out
 clear HH
 by_cases heq : b2 = e
 ·subst heq
  rw [if_pos rfl] at h
  obtain ⟨⟨en, zs, V⟩, hap, h⟩ := Option.bind_eq_some_iff.mp h
  obtain ⟨rr, hrr, h⟩ := Option.bind_eq_some_iff.mp h
  have h := Option.some.inj h
  simp only [Prod.mk.injEq] at h
  obtain ⟨rfl, rfl, rfl, rfl, rfl⟩ := h
  obtain ⟨E, rfl⟩ : ∃ E : Nat, b2 = (E : Int) := ⟨b2.toNat, by have := HE.out; have := HB0.out; omega⟩
  have HRR := Aside0.mk hrr
  have HXA := Aside0.mk hap
  clear hap hrr
  refine (rangeApp.calls k a0 a1 a2 a3 a4 a5 w.heap.size p py fq q b e2 E A3 c3 ss xs (.slice none 0 0) A4 c4 st ys Wq en zs V (HG.out.below HBF.out) HBF.out.size HRG.out HQ.out (Kd.S_nil _ _ _ _ _) (by have := H64.out; omega) HPY2.out HXP.out HY.out HTL.out HYT.out HAP.out HXA.out).mono ?_
  rintro ex wr ⟨rfl, hA⟩
  obtain ⟨A', c', ss', SV', R', q', S', F, hB', hat⟩ := hA
  have HRG' := Aside0.mk R'
  have HQ' := Aside0.mk q'
  have HRB := Aside0.mk (F.ty HRG.out HQ.out HRQ.out (by decide) (by decide) (by decide) (by decide))
  have HB := Aside0.mk (HBF.out.trans (hB' _ (Nat.le_refl _) HQS.out HPW.out.1))
  obtain ⟨AV, cV, rfl⟩ := Kd.S_slice S'
  have HV := Aside0.mk S'
  clear R' S' F hB' hat HRG HQ HRQ HBF HPY2 HY HYT HAP HXA HXS HYS HRS HRS2
  dsimp only
  go_wp2_with (fail)
  have y0 : wr.cell? ⟨q, 0, none⟩ = some (.slice AV V.length cV) := blk_cell q' 0
  have HQL := Aside0.mk (show q < wr.heap.size from blk_lt HQ'.out)
  have hqg : q ≠ g2 := ty_ne HQ'.out HRB.out (by decide)
  have hqg' : g2 ≠ q := fun e => hqg e.symm
  clear q'
  go_region_held_law (fun w' => w'.cell? ⟨q, 0, none⟩ = some (.slice AV V.length cV)) (first | exact v0_ | exact y0 | go_keep) (first
   | (
    go_simp; go_at_call 55
    have hbd : Below wr.heap.size wr wr.drew := below_drew (Below.refl _ _)
    refine (fromRange.calls k w.heap.size p fq a0 a1 a2 a3 a4 a5 b _ A' c' ss' zs rr _ (HRG'.out.below hbd) HRR.out).mono ?_
    rintro ex w5 ⟨v5, rfl, hS5, hb5⟩
    have HB5 := Aside0.mk (show Below wr.heap.size wr w5 from below_step hbd hb5)
    have HS5 := Aside0.mk (Kd.S_lower hS5 (Nat.le_trans HB.out.size hbd.size))
    obtain ⟨A5, c5, rfl⟩ := Kd.S_slice hS5
    have v0_ := (HB5.out.cell (p := ⟨q, 0, none⟩) HQL.out).trans y0
    have hbx := blk_below HRB.out HB5.out
    have s0 : w5.cell? ⟨g2, 0, none⟩ = some (.int .u64 0) := blk_cell hbx 0
    have s1 : w5.cell? ⟨g2, 1, none⟩ = some (.int .u64 0) := blk_cell hbx 1
    have s2 : w5.cell? ⟨g2, 2, none⟩ = some (.slice none 0 0) := blk_cell hbx 2
    have z0 := blk_frozen hbx 0
    have z1 := blk_frozen hbx 1
    have z2 := blk_frozen hbx 2
    have HBX := Aside0.mk hbx
    clear hS5 hb5 hbd hbx)
   | fail)
  go_wp2_with (fail)
  have k1 := blk_set HBX.out 0 (.int .u64 b)
  have k2 := blk_set k1 1 (.int .u64 en)
  have k3 := blk_set k2 2 (.slice A5 rr.length c5)
  refine bodyPost_ret (results_ctt rfl _ _ g2 34 #[.int .u64 b, .int .u64 en, .slice A5 rr.length c5] (0, 0) _ rfl k3 Tryd.underlying34 rfl (by kernel_rfl)) rfl ?_
  refine ⟨_, _, rfl, Kd.S_set (Kd.S_set (Kd.S_set HS5.out HBX.out (by decide) _ _) k1 (by decide) _ _) k2 (by decide) _ _, Kd.S_set (Kd.S_set (Kd.S_set (Kd.S_below HV.out HB5.out) HBX.out (by decide) _ _) k1 (by decide) _ _) k2 (by decide) _ _, ?_⟩
  exact (((HB.out.trans (HB5.out.mono HB.out.size)).setCell (p := ⟨g2, 0, none⟩) HW1.out.2.1 _).setCell (p := ⟨g2, 1, none⟩) HW1.out.2.1 _).setCell (p := ⟨g2, 2, none⟩) HW1.out.2.1 _
 ·rw [if_neg heq] at h
  have h := Option.some.inj h
  simp only [Prod.mk.injEq] at h
  obtain ⟨rfl, rfl, rfl, rfl, rfl⟩ := h
  refine (appendRangeNo.calls p py fq q b e b2 e2 _ _ Wq HRG.out.cell HPY2.out heq).mono ?_
  rintro ex wr ⟨⟨t, a, rfl⟩, hb⟩
  have hbx := blk_below HRQ.out hb
  have s0 : wr.cell? ⟨g2, 0, none⟩ = some (.int .u64 0) := blk_cell hbx 0
  have s1 : wr.cell? ⟨g2, 1, none⟩ = some (.int .u64 0) := blk_cell hbx 1
  have s2 : wr.cell? ⟨g2, 2, none⟩ = some (.slice none 0 0) := blk_cell hbx 2
  have z0 := blk_frozen hbx 0
  have z1 := blk_frozen hbx 1
  have z2 := blk_frozen hbx 2
  have HBX := Aside0.mk hbx
  have HB := Aside0.mk (HBF.out.trans (hb.mono HBF.out.size))
  clear hbx hb HRG HQ HRQ HBF HPY2 HY HYT HAP HXS HYS HRS HRS2
  dsimp only
  go_wp2_with (fail)
  have k1 := blk_set HBX.out 0 (.int .u64 0)
  have k2 := blk_set k1 1 (.int .u64 0)
  have k3 := blk_set k2 2 (.slice none 0 0)
  refine bodyPost_ret (results_ctt rfl _ _ g2 34 #[.int .u64 0, .int .u64 0, .slice none 0 0] (0, 0) _ rfl k3 Tryd.underlying34 rfl (by kernel_rfl)) rfl ?_
  refine ⟨_, _, rfl, Kd.S_nil _ _ _ _ _, Kd.S_nil _ _ _ _ _, ?_⟩
  exact ((HB.out.setCell (p := ⟨g2, 0, none⟩) HW1.out.2.1 _).setCell (p := ⟨g2, 1, none⟩) HW1.out.2.1 _).setCell (p := ⟨g2, 2, none⟩) HW1.out.2.1 _
def rseed (F : List Int → List Int → Option (List Int)) (xs : List (List Int)) (M : Nat) : Nat → Option (List Int)
 | 0 => some (xs.getD M [])
 | i + 1 => (rseed F xs M i).bind fun t => F (xs.getD (M - 1 - i) []) t
theorem rseed_some {F : List Int → List Int → Option (List Int)} {xs : List (List Int)} {M : Nat} : ∀ (T : Nat) (r : List Int), rseed F xs M T = some r → ∀ t, t ≤ T → ∃ s, rseed F xs M t = some s
 | 0, r, h, t, ht => by
  obtain rfl : t = 0 := by omega
  exact ⟨r, h⟩
 | T + 1, r, h, t, ht => by
  by_cases e : t = T + 1
  ·subst e; exact ⟨r, h⟩
  ·rw [rseed] at h
   obtain ⟨s, hs, _⟩ := Option.bind_eq_some_iff.mp h
   exact rseed_some T s hs t (by omega)
def rsOf (F : List Int → List Int → Option (List Int)) (xs : List (List Int)) (M t : Nat) : List Int := (rseed F xs M t).getD []
theorem rseed_of {F : List Int → List Int → Option (List Int)} {xs : List (List Int)} {M T : Nat} {r : List Int} (h : rseed F xs M T = some r) {t : Nat} (ht : t ≤ T) : rseed F xs M t = some (rsOf F xs M t) := by
 obtain ⟨s, hs⟩ := rseed_some T r h t ht
 unfold rsOf
 rw [hs]; rfl
def zI (e : Int) : Nat → Int
 | 0 => e
 | i + 1 => Go.bits .and .u64 (zI e i) (IntKind.u64.wrap (zI e i - 1))
def lvI (e : Int) (i : Nat) : Nat := ((bits_TrailingZeros64.f (zI e (i + 1))).getD 0).toNat
def rootOk (F : List Int → List Int → Option (List Int)) (e : Int) (xs : List (List Int)) (M : Nat) : Bool :=
 decide (M < 1099511627776) && ((List.range M).all (fun i => decide (bits_TrailingZeros64.f (zI e (i + 1)) = some (lvI e i : Int)) && decide (lvI e i ≤ 64)) && (List.range (M + 1)).all fun i => decide ((rsOf F xs M i).length ≤ 140737488355328))
def rootV (F : List Int → List Int → Option (List Int)) (e : Int) (xs : List (List Int)) (M : Nat) : List S51 := visR (lvI e) (fun i => zI e (i + 1) / 2 ^ min (lvI e i + 1) 64) (rsOf F xs M) M
def rootF (F : List Int → List Int → Option (List Int)) (e : Int) (xs : List (List Int)) (M : Nat) : Option (List Int × List S51 × Bool) :=
 (rseed F xs M M).bind fun r => if rootOk F e xs M = true then some (r, rootV F e xs M, true) else none
def impl_RootHash.f (k : Nat) (a0 a1 a2 a3 a4 a5 b e : Int) (hs : List (List Int)) : Option (List Int × List S51 × Bool) :=
 if b = 0 ∧ 0 ≤ e ∧ compact_RangeSize.f k b e = some (hs.length : Int) then (impl_texts.f k hs).bind fun xs => if xs.length = hs.length ∧ 0 < xs.length then rootF (impl_toy_HashChildren.f k a0 a1 a2 a3 a4 a5) e xs (xs.length - 1) else none else none
theorem three (w : World) (o0 o1 o3 : Obj) : (((w.alloc o0).alloc o1).alloc o3).heap[w.heap.size + 1]? = some o1 ∧ (((w.alloc o0).alloc o1).alloc o3).heap[w.heap.size + 1 + 1]? = some o3 ∧ Below w.heap.size w (((w.alloc o0).alloc o1).alloc o3) := by
 have s1 : (w.alloc o0).heap.size = w.heap.size + 1 := World.size_alloc _ _
 have s2 : ((w.alloc o0).alloc o1).heap.size = w.heap.size + 1 + 1 := by rw [World.size_alloc, s1]
 have b1 := blk_new (w.alloc o0) o1
 have b2 := blk_new ((w.alloc o0).alloc o1) o3
 rw [s1] at b1
 rw [s2] at b2
 exact ⟨blk_alloc b1 _, b2, below_alloc (below_alloc (below_alloc (Below.refl _ _) _) _) _⟩
theorem impl_RootHash.calls (k : Nat) (a0 a1 a2 a3 a4 a5 b e : Int) (A : Option Addr) (c : Nat) (hs : List (List Int)) (r0 : List Int) (r1 : List S51) (r2 : Bool) (w : World) (hG : Glob w)
 (hr : Kd.C (Kd.slice 5 (Kd.int .u8)) w A hs.length hs) (hc : hs.length ≤ c) (h : impl_RootHash.f k a0 a1 a2 a3 a4 a5 b e hs = some (r0, r1, r2)) :
 Calls Tryd.prog 24 #[.agg #[.int .i64 a0, .int .i64 a1, .int .i64 a2, .int .u64 a3, .int .u64 a4, .int .u64 a5], .agg #[.int .u64 b, .int .u64 e, .slice A hs.length c]] w fun ex w' => ∃ v0 v1, ex = .returned (.tuple #[v0, v1, .bool r2]) ∧ Kd.R (Kd.int .u8) 5 w' w.heap.size (fun _ => True) v0 r0 ∧ Kd.S k51 51 w' w.heap.size (fun _ => True) v1 r1 ∧ Below w.heap.size w w' := by
 unfold impl_RootHash.f at h
 by_cases hq : b = 0 ∧ 0 ≤ e ∧ compact_RangeSize.f k b e = some (hs.length : Int)
 case neg => rw [if_neg hq] at h; cases h
 rw [if_pos hq] at h
 obtain ⟨rfl, he0, hrs⟩ := hq
 obtain ⟨E, rfl⟩ : ∃ E : Nat, e = (E : Int) := ⟨e.toNat, by omega⟩
 obtain ⟨xs, hxs, h⟩ := Option.bind_eq_some_iff.mp h
 by_cases hlen : xs.length = hs.length ∧ 0 < xs.length
 case neg => rw [if_neg hlen] at h; cases h
 rw [if_pos hlen] at h
 obtain ⟨M, hM⟩ : ∃ M, xs.length = M + 1 := ⟨xs.length - 1, by omega⟩
 rw [show xs.length - 1 = M by omega] at h
 unfold rootF at h
 obtain ⟨r, hsd, h⟩ := Option.bind_eq_some_iff.mp h
 by_cases hok : rootOk (impl_toy_HashChildren.f k a0 a1 a2 a3 a4 a5) (E : Int) xs M = true
 case neg => rw [if_neg hok] at h; cases h
 rw [if_pos hok] at h
 have h := Option.some.inj h
 simp only [Prod.mk.injEq] at h
 obtain ⟨rfl, rfl, rfl⟩ := h
 unfold rootOk at hok
 simp only [Bool.and_eq_true, decide_eq_true_eq] at hok
 obtain ⟨o1, o2, o3⟩ := hok
 have HO1 := Aside0.mk o1
 have HO2 := Aside0.mk (show ∀ i, i < M → bits_TrailingZeros64.f (zI (E : Int) (i + 1)) = some (lvI (E : Int) i : Int) ∧ lvI (E : Int) i ≤ 64 from fun i hi => by
  have := List.all_eq_true.mp o2 i (List.mem_range.mpr hi)
  simp only [Bool.and_eq_true, decide_eq_true_eq] at this
  exact this)
 have HO3 := Aside0.mk (show ∀ i, i ≤ M → (rsOf (impl_toy_HashChildren.f k a0 a1 a2 a3 a4 a5) xs M i).length ≤ 140737488355328 from fun i hi => by
  have := List.all_eq_true.mp o3 i (List.mem_range.mpr (by omega))
  simpa using this)
 have HSD := Aside0.mk hsd
 have HG := Aside0.mk hG
 have HR := Aside0.mk hr
 have HC := Aside0.mk hc
 have HRS := Aside0.mk hrs
 have HXS := Aside0.mk hxs
 have HL1 := Aside0.mk hlen.1
 have HM := Aside0.mk hM
 clear hG hr hc hrs hxs hlen hM hsd o1 o2 o3 he0 h
 go_enter Tryd.func24, Tryd.ntmps24
 go_wp2_with (fail)
 obtain ⟨f1, f3, f4⟩ := three w (Obj.cells #[Value.int IntKind.i64 a0, Value.int IntKind.i64 a1, Value.int IntKind.i64 a2, Value.int IntKind.u64 a3, Value.int IntKind.u64 a4, Value.int IntKind.u64 a5] 24) (Obj.cells #[Value.int IntKind.u64 0, Value.int IntKind.u64 (E : Int), Value.slice A hs.length c] 34) (Obj.cells #[Value.func (Fn.func 50) #[Value.agg #[Value.int IntKind.i64 a0, Value.int IntKind.i64 a1, Value.int IntKind.i64 a2, Value.int IntKind.u64 a3, Value.int IntKind.u64 a4, Value.int IntKind.u64 a5]] #[]] 92)
 generalize ((w.alloc (Obj.cells #[Value.int IntKind.i64 a0, Value.int IntKind.i64 a1, Value.int IntKind.i64 a2, Value.int IntKind.u64 a3, Value.int IntKind.u64 a4, Value.int IntKind.u64 a5] 24)).alloc (Obj.cells #[Value.int IntKind.u64 0, Value.int IntKind.u64 (E : Int), Value.slice A hs.length c] 34)).alloc (Obj.cells #[Value.func (Fn.func 50) #[Value.agg #[Value.int IntKind.i64 a0, Value.int IntKind.i64 a1, Value.int IntKind.i64 a2, Value.int IntKind.u64 a3, Value.int IntKind.u64 a4, Value.int IntKind.u64 a5]] #[]] 92) = W0 at f1 f3 f4 ⊢
 obtain ⟨g1, hg1⟩ : ∃ g, g = w.heap.size + 1 := ⟨_, rfl⟩
 obtain ⟨fq, hg3⟩ : ∃ g, g = w.heap.size + 1 + 1 := ⟨_, rfl⟩
 rw [← hg1] at f1
 rw [← hg3] at f3
 rw [← hg3, ← hg1]
 have y0 : W0.cell? ⟨g1, 0, none⟩ = some (.int .u64 0) := blk_cell f1 0
 have y1 : W0.cell? ⟨g1, 1, none⟩ = some (.int .u64 (E : Int)) := blk_cell f1 1
 have y2 : W0.cell? ⟨g1, 2, none⟩ = some (.slice A hs.length c) := blk_cell f1 2
 have BF := Aside0.mk f3
 have HB := Aside0.mk f4
 have HG1 := Aside0.mk (blk_lt f1)
 have HW1 := Aside0.mk (show w.heap.size ≤ g1 ∧ w.heap.size ≤ fq by omega)
 clear f1 f3 f4 hg1 hg3
 have HBn := Aside0.mk (Below.refl W0.heap.size W0)
 go_region_held_law (fun w' => w'.cell? ⟨g1, 0, none⟩ = some (.int .u64 0) ∧ w'.cell? ⟨g1, 1, none⟩ = some (.int .u64 (E : Int)) ∧ w'.cell? ⟨g1, 2, none⟩ = some (.slice A hs.length c)) (first | exact ⟨u0_, u1_, u2_⟩ | exact ⟨v0_, v1_, v2_⟩ | exact ⟨y0, y1, y2⟩ | go_keep) (first
  | (
   go_simp; go_at_call 45
   have hbd : Below W0.heap.size W0 W0.drew := below_drew (Below.refl _ _)
   have hbw : Below w.heap.size w W0.drew := below_step HB.out hbd
   refine (impl_texts.calls k A c hs xs _ (Kd.C_below HR.out hbw) HC.out HXS.out).mono ?_
   rintro ex wq ⟨v3, rfl, hS3, hb3⟩
   have HB3 := Aside0.mk (show Below W0.heap.size W0 wq from below_step hbd hb3)
   have HS3 := Aside0.mk (Kd.S_lower hS3 (below_size hbw))
   obtain ⟨A3, c3, rfl⟩ := Kd.S_slice hS3
   have v0_ := (HB3.out.cell (p := ⟨g1, 0, none⟩) HG1.out).trans y0
   have v1_ := (HB3.out.cell (p := ⟨g1, 1, none⟩) HG1.out).trans y1
   have v2_ := (HB3.out.cell (p := ⟨g1, 2, none⟩) HG1.out).trans y2
   clear hS3 hb3 hbw hbd)
  | (
   go_simp; go_at_call 51
   refine (newRange.calls k fq 0 (E : Int) A3 xs.length c3 _ (HG.out.below (below_step HB.out HB3.out)) (by omega) (by rw [HL1.out]; exact HRS.out)).mono ?_
   rintro ex wn ⟨nd, rfl, rfl⟩
   have hp : ((wq.drewN nd).alloc (Obj.cells #[.pointer (some ⟨fq, 0, none⟩), .int .u64 0, .int .u64 (E : Int), .slice A3 xs.length c3] 148)).heap[wq.heap.size]? = some (Obj.cells #[.pointer (some ⟨fq, 0, none⟩), .int .u64 0, .int .u64 (E : Int), .slice A3 xs.length c3] 148) := blk_new (wq.drewN nd) _
   have hbn : Below W0.heap.size W0 ((wq.drewN nd).alloc (Obj.cells #[.pointer (some ⟨fq, 0, none⟩), .int .u64 0, .int .u64 (E : Int), .slice A3 xs.length c3] 148)) := below_alloc (pw_below_drewN HB3.out nd) _
   have hSn := Kd.S_alloc (Kd.S_drewN HS3.out nd) (Obj.cells #[.pointer (some ⟨fq, 0, none⟩), .int .u64 0, .int .u64 (E : Int), .slice A3 xs.length c3] 148)
   have hpp : w.heap.size ≤ wq.heap.size := below_size (below_step HB.out HB3.out)
   generalize (wq.drewN nd).alloc (Obj.cells #[.pointer (some ⟨fq, 0, none⟩), .int .u64 0, .int .u64 (E : Int), .slice A3 xs.length c3] 148) = wn at hp hbn hSn ⊢
   generalize wq.heap.size = p at hp hpp ⊢
   have HP := Aside0.mk hp
   have HBN := Aside0.mk hbn
   have HSN := Aside0.mk hSn
   have HPP := Aside0.mk hpp
   have u0_ := (HBN.out.cell (p := ⟨g1, 0, none⟩) HG1.out).trans y0
   have u1_ := (HBN.out.cell (p := ⟨g1, 1, none⟩) HG1.out).trans y1
   have u2_ := (HBN.out.cell (p := ⟨g1, 2, none⟩) HG1.out).trans y2
   clear hp hbn hSn hpp)
  | fail)
 go_wp2_with (fail)
 have hqn := blk_new wn (Obj.cells #[Value.slice none 0 0] 36)
 have HBQ := Aside0.mk (show Below w.heap.size w (wn.alloc (Obj.cells #[Value.slice none 0 0] 36)) from below_alloc (below_step HB.out HBN.out) _)
 have HPQ := Aside0.mk (blk_alloc HP.out (Obj.cells #[Value.slice none 0 0] 36))
 have HSQ := Aside0.mk (Kd.S_alloc HSN.out (Obj.cells #[Value.slice none 0 0] 36))
 have HFQ := Aside0.mk (blk_alloc (blk_below BF.out HBN.out) (Obj.cells #[Value.slice none 0 0] 36))
 have hqs : w.heap.size ≤ wn.heap.size := below_size (below_step HB.out HBN.out)
 generalize wn.alloc (Obj.cells #[Value.slice none 0 0] 36) = Wq at hqn HBQ HPQ HSQ HFQ ⊢
 generalize wn.heap.size = q at hqn hqs ⊢
 have HQS := Aside0.mk hqs
 clear hqs u0_ u1_ u2_ v0_ v1_ v2_ y0 y1 y2 HB3 HS3 HBN HSN HP BF HB HG1 HR
 obtain ⟨ss, hsl, hRw, hTx⟩ := rows_SH (Kd.S_R HSQ.out)
 have HRG := Aside0.mk (show RgAt Wq w.heap.size p fq a0 a1 a2 a3 a4 a5 0 (E : Int) A3 c3 ss xs from ⟨by rw [hsl]; exact HPQ.out, HFQ.out, by rw [hsl]; exact hRw, hsl, hTx⟩)
 have H1 := Aside0.mk (show 1 ≤ w.heap.size from World.block_lt_of_cell? _ _ (HG.out 0 (by omega)))
 clear hsl hRw hTx HPQ HFQ HSQ
 refine (getRoot.calls k a0 a1 a2 a3 a4 a5 w.heap.size p fq q (E : Int) M A3 c3 ss xs (.slice none 0 0) [] (zI (E : Int)) (lvI (E : Int)) (rsOf (impl_toy_HashChildren.f k a0 a1 a2 a3 a4 a5) xs M) Wq H1.out (Nat.le_trans H1.out HQS.out) (HG.out.below HBQ.out) HBQ.out.size HRG.out hqn (Kd.S_nil _ _ _ _ _) HM.out HO1.out (by have := HO1.out; simp only [List.length_nil]; omega) rfl (fun i _ => rfl) (fun i hi => (HO2.out i hi).1) (fun i hi => (HO2.out i hi).2) rfl (fun i hi => ?hs_) HO3.out).mono ?_
 case hs_ =>
  have g1 := rseed_of HSD.out (show i ≤ M by omega)
  have g2 := rseed_of HSD.out (show i + 1 ≤ M by omega)
  rw [rseed, g1, Option.bind_some] at g2
  exact g2
 rintro ex w5 ⟨A5, c5, SV5, rfl, hT5, hq5, hS5, hVs5, hBB5⟩
 rw [List.nil_append] at hS5
 obtain ⟨AV, cV, rfl⟩ := Kd.S_slice hS5
 have hrs : rsOf (impl_toy_HashChildren.f k a0 a1 a2 a3 a4 a5) xs M M = r := by unfold rsOf; rw [HSD.out]; rfl
 rw [hrs] at hT5 ⊢
 have hrl := HO3.out M (Nat.le_refl _)
 rw [hrs] at hrl
 obtain ⟨_, t2, t3⟩ := hT5.read
 have HT2 := Aside0.mk t2
 have HT3 := Aside0.mk t3
 have HQ5 := Aside0.mk hq5
 have HS5 := Aside0.mk hS5
 have HRL := Aside0.mk hrl
 have HB5 := Aside0.mk (HBQ.out.trans (hBB5 _ (Nat.le_refl _) HQS.out))
 have y0 : w5.cell? ⟨q, 0, none⟩ = some (.slice AV (rootV (impl_toy_HashChildren.f k a0 a1 a2 a3 a4 a5) (E : Int) xs M).length cV) := blk_cell hq5 0
 have HQL := Aside0.mk (show q < w5.heap.size from blk_lt hq5)
 clear hT5 hq5 hS5 hVs5 hBB5 t2 t3 hrl hqn HRG HBQ hrs
 obtain ⟨V, hV⟩ : ∃ V, rootV (impl_toy_HashChildren.f k a0 a1 a2 a3 a4 a5) (E : Int) xs M = V := ⟨_, rfl⟩
 rw [hV] at y0
 replace HS5 := Aside0.mk (show Kd.S k51 51 w5 w.heap.size (fun _ => True) (.slice AV V.length cV) V from by rw [← hV]; exact HS5.out)
 dsimp only
 go_wp2_with (fail)
 go_region_held_law (fun w' => w'.cell? ⟨q, 0, none⟩ = some (.slice AV V.length cV)) (first | exact v0_ | exact y0 | go_keep) (first
  | (
   refine Kd.R_append_rows_step (Kd.int .u8) (w0 := w5) (W := w5.drew) w.heap.size ?hw (.const (.slice none 0 0)) (.tmp 39) 27 5 (.int .u8 0) 1 rfl Tryd.underlying27 info5 rfl (by decide) (by omega) (.slice none 0 0) [] r A5 r.length c5 (fun _ => True) (fun _ => False) rfl rfl (Kd.R_nil _ _ _ _ _) (Kd.C_drew HT3.out) (fun _ _ h => h) (fun _ h => h.elim) (fun _ _ => trivial) ?hB ?hbase ?aL ?_
   (case hw => simp [Region.wanted])
   (case hB => exact below_drew (Below.refl _ _))
   (case hbase => exact HB5.out.size)
   (case aL => have := HRL.out; simp; omega)
   intro v10 wq ho hB hg hat
   have HR6 := Aside0.mk (show Kd.R (Kd.int .u8) 5 wq w.heap.size (fun _ => True) v10 r from ho)
   obtain ⟨A10, c10, rfl⟩ := Kd.R_slice HR6.out
   have HB6 := Aside0.mk (show Below w5.heap.size w5 wq from (below_drew (Below.refl _ _)).grown hg (Nat.le_refl _) (fun b hb => by cases hb))
   have v0_ := (HB6.out.cell (p := ⟨q, 0, none⟩) HQL.out).trans y0
   clear ho hB hg hat)
  | fail)
 all_goals
  go_step
  try simp [Act.put]
  try go_step
  go_wp2
  refine ⟨rfl, _, results_tmp3 (fn := Tryd.f24) rfl _ _ _, ?_⟩
  rw [hV]
  exact ⟨_, _, rfl, HR6.out, Kd.S_below HS5.out HB6.out, HB5.out.trans (HB6.out.mono HB5.out.size)⟩
theorem two_new (w : World) (o1 o2 : Obj) : ((w.alloc o1).alloc o2).heap[w.heap.size]? = some o1 ∧ ((w.alloc o1).alloc o2).heap[w.heap.size + 1]? = some o2 ∧ Below w.heap.size w ((w.alloc o1).alloc o2) := by
 refine ⟨blk_alloc (blk_new w o1) o2, ?_, below_alloc (below_alloc (Below.refl _ _) _) _⟩
 have h := blk_new (w.alloc o1) o2
 rwa [show (w.alloc o1).heap.size = w.heap.size + 1 by simp] at h
theorem growthRoot1.calls (k : Nat) (a0 a1 a2 a3 a4 a5 b e : Int) (g : Nat) (A : Option Addr) (c : Nat) (hs : List (List Int)) (r0 : List Int) (r1 : List S51) (z : Bool) (w : World) (hG : Glob w)
 (hb : w.heap[g]? = some (.cells #[.int .u64 b, .int .u64 e, .slice A hs.length c] 34 (0, 0))) (hr : Kd.C (Kd.slice 5 (Kd.int .u8)) w A hs.length hs) (hc : hs.length ≤ c) (h : impl_RootHash.f k a0 a1 a2 a3 a4 a5 b e hs = some (r0, r1, z)) :
 Calls Tryd.prog 78 #[.agg #[.int .i64 a0, .int .i64 a1, .int .i64 a2, .int .u64 a3, .int .u64 a4, .int .u64 a5], .slice (some ⟨g, 0, none⟩) 1 1] w fun ex w' => ∃ v, ex = .returned (.tuple #[v, .bool z]) ∧ Kd.R (Kd.int .u8) 5 w' w.heap.size (fun _ => True) v r0 ∧ Below w.heap.size w w' := by
 obtain ⟨i0, hi0, _, hsz, _⟩ := info_parts info34
 have hcut := cut_from (P := Tryd.prog) 129 34 .i64 Tryd.underlying129 hi0 3 hsz (some ⟨g, 0, none⟩) 1 1 (1 : Int) (by omega) (by omega)
 rw [show (1 : Int).toNat = 1 from rfl, if_pos rfl] at hcut
 have x0 : ∀ o, (w.alloc o).cell? ⟨g, 0, none⟩ = some (.int .u64 b) := fun o => blk_cell (blk_alloc hb o) 0
 have x1 : ∀ o, (w.alloc o).cell? ⟨g, 1, none⟩ = some (.int .u64 e) := fun o => blk_cell (blk_alloc hb o) 1
 have x2 : ∀ o, (w.alloc o).cell? ⟨g, 2, none⟩ = some (.slice A hs.length c) := fun o => blk_cell (blk_alloc hb o) 2
 have HG := Aside0.mk hG
 have HR := Aside0.mk hr
 have HC := Aside0.mk hc
 have HF := Aside0.mk h
 clear hb hG hr hc h hi0 hsz
 go_enter Tryd.func78, Tryd.ntmps78
 go_wp2_with (fail)
 obtain ⟨n1, n2, n3⟩ := two_new w (Obj.cells #[Value.int IntKind.i64 a0, Value.int IntKind.i64 a1, Value.int IntKind.i64 a2, Value.int IntKind.u64 a3, Value.int IntKind.u64 a4, Value.int IntKind.u64 a5] 24) (Obj.cells #[Value.int IntKind.u64 b, Value.int IntKind.u64 e, Value.slice A hs.length c] 34)
 have B1 := Aside0.mk n1
 have B2 := Aside0.mk n2
 have B3 := Aside0.mk n3
 clear n1 n2 n3 x0 x1 x2 hcut
 go_loopg [7, 22] 0 (fun kq v7 v22 w' => v7 = .bool true ∧ v22 = .int .i64 0 ∧ Aside0 (w'.heap[w.heap.size]? = some (.cells #[.int .i64 a0, .int .i64 a1, .int .i64 a2, .int .u64 a3, .int .u64 a4, .int .u64 a5] 24 (0, 0))) ∧ Aside0 (w'.heap[w.heap.size + 1]? = some (.cells #[.int .u64 b, .int .u64 e, .slice A hs.length c] 34 (0, 0))) ∧ Aside0 (Below w.heap.size w w'))
 case atStart => exact ⟨rfl, rfl, B1, B2, B3⟩
 case round =>
  clear B1 B2 B3
  obtain ⟨rfl, rfl, B1, B2, B3⟩ := hrel
  have t0 : World.cell? wr ⟨w.heap.size, 0, none⟩ = some (.int .i64 a0) := blk_cell B1.out 0
  have t1 : World.cell? wr ⟨w.heap.size, 1, none⟩ = some (.int .i64 a1) := blk_cell B1.out 1
  have t2 : World.cell? wr ⟨w.heap.size, 2, none⟩ = some (.int .i64 a2) := blk_cell B1.out 2
  have t3 : World.cell? wr ⟨w.heap.size, 3, none⟩ = some (.int .u64 a3) := blk_cell B1.out 3
  have t4 : World.cell? wr ⟨w.heap.size, 4, none⟩ = some (.int .u64 a4) := blk_cell B1.out 4
  have t5 : World.cell? wr ⟨w.heap.size, 5, none⟩ = some (.int .u64 a5) := blk_cell B1.out 5
  have s0 : World.cell? wr ⟨w.heap.size + 1, 0, none⟩ = some (.int .u64 b) := blk_cell B2.out 0
  have s1 : World.cell? wr ⟨w.heap.size + 1, 1, none⟩ = some (.int .u64 e) := blk_cell B2.out 1
  have s2 : World.cell? wr ⟨w.heap.size + 1, 2, none⟩ = some (.slice A hs.length c) := blk_cell B2.out 2
  go_wp2_with (fail)
  refine (impl_RootHash.calls k a0 a1 a2 a3 a4 a5 b e A c hs r0 r1 z _ (HG.out.below B3.out) (Kd.C_below HR.out B3.out) HC.out HF.out).mono ?_
  rintro ex w9 ⟨v0, v1, rfl, hR, _, hb9⟩
  have HR9 := Aside0.mk (Kd.R_lower hR B3.out.size)
  have HB9 := Aside0.mk (below_step B3.out hb9)
  clear hR hb9
  dsimp only
  go_wp2_with (fail)
  go_ret2
  exact ⟨_, rfl, HR9.out, HB9.out⟩
theorem growthRoot2.calls (k : Nat) (a0 a1 a2 a3 a4 a5 b e b2 e2 : Int) (g : Nat) (A : Option Addr) (c : Nat) (hs : List (List Int)) (A2 : Option Addr) (c2 : Nat) (hs2 : List (List Int)) (y0 y1 : Int) (y2 : List (List Int)) (y3 : List S51) (y4 : Bool) (r0 : List Int) (r1 : List S51) (z : Bool) (w : World) (hG : Glob w)
 (hb : w.heap[g]? = some (.cells #[.int .u64 b, .int .u64 e, .slice A hs.length c, .int .u64 b2, .int .u64 e2, .slice A2 hs2.length c2] 34 (0, 0))) (hr : Kd.C (Kd.slice 5 (Kd.int .u8)) w A hs.length hs) (hc : hs.length ≤ c) (hr2 : Kd.C (Kd.slice 5 (Kd.int .u8)) w A2 hs2.length hs2) (hc2 : hs2.length ≤ c2)
 (ha : impl_AppendRange.f k a0 a1 a2 a3 a4 a5 b e hs b2 e2 hs2 = some (y0, y1, y2, y3, y4)) (h : impl_RootHash.f k a0 a1 a2 a3 a4 a5 y0 y1 y2 = some (r0, r1, z)) :
 Calls Tryd.prog 78 #[.agg #[.int .i64 a0, .int .i64 a1, .int .i64 a2, .int .u64 a3, .int .u64 a4, .int .u64 a5], .slice (some ⟨g, 0, none⟩) 2 2] w fun ex w' => ∃ v, ex = .returned (.tuple #[v, .bool (y4 && z)]) ∧ Kd.R (Kd.int .u8) 5 w' w.heap.size (fun _ => True) v r0 ∧ Below w.heap.size w w' := by
 obtain ⟨i0, hi0, _, hsz, _⟩ := info_parts info34
 have hcut := cut_from (P := Tryd.prog) 129 34 .i64 Tryd.underlying129 hi0 3 hsz (some ⟨g, 0, none⟩) 2 2 (1 : Int) (by omega) (by omega)
 rw [show (1 : Int).toNat = 1 from rfl, if_neg (by decide)] at hcut
 have hcut : ∀ W : World, (Instr.slice 129 (.slice (some ⟨g, 0, none⟩) 2 2) (some (.int .i64 1)) none none).run Tryd.prog W = .ok (.slice (some ⟨g, 3, none⟩) 1 1) W := hcut
 have x0 : ∀ o, (w.alloc o).cell? ⟨g, 0, none⟩ = some (.int .u64 b) := fun o => blk_cell (blk_alloc hb o) 0
 have x1 : ∀ o, (w.alloc o).cell? ⟨g, 1, none⟩ = some (.int .u64 e) := fun o => blk_cell (blk_alloc hb o) 1
 have x2 : ∀ o, (w.alloc o).cell? ⟨g, 2, none⟩ = some (.slice A hs.length c) := fun o => blk_cell (blk_alloc hb o) 2
 have BG := Aside0.mk hb
 have HG := Aside0.mk hG
 have HR := Aside0.mk hr
 have HC := Aside0.mk hc
 have HR2 := Aside0.mk hr2
 have HC2 := Aside0.mk hc2
 have HA := Aside0.mk ha
 have HF := Aside0.mk h
 clear hb hG hr hc hr2 hc2 ha h hi0 hsz
 go_enter Tryd.func78, Tryd.ntmps78
 go_wp2_with (fail)
 obtain ⟨n1, n2, n3⟩ := two_new w (Obj.cells #[Value.int IntKind.i64 a0, Value.int IntKind.i64 a1, Value.int IntKind.i64 a2, Value.int IntKind.u64 a3, Value.int IntKind.u64 a4, Value.int IntKind.u64 a5] 24) (Obj.cells #[Value.int IntKind.u64 b, Value.int IntKind.u64 e, Value.slice A hs.length c] 34)
 have B1 := Aside0.mk n1
 have B2 := Aside0.mk n2
 have B3 := Aside0.mk n3
 clear n1 n2 n3 x0 x1 x2 hcut
 go_loopg [7, 22] 1 (fun kq v7 v22 w' => Aside0 (w'.heap[w.heap.size]? = some (.cells #[.int .i64 a0, .int .i64 a1, .int .i64 a2, .int .u64 a3, .int .u64 a4, .int .u64 a5] 24 (0, 0))) ∧ Aside0 (Below w.heap.size w w') ∧ ((kq = 1 ∧ v7 = .bool true ∧ v22 = .int .i64 0 ∧ w'.heap[w.heap.size + 1]? = some (.cells #[.int .u64 b, .int .u64 e, .slice A hs.length c] 34 (0, 0))) ∨ (kq = 0 ∧ v7 = .bool y4 ∧ v22 = .int .i64 1 ∧ ∃ A9 c9, Kd.S (Kd.slice 5 (Kd.int .u8)) 27 w' w.heap.size (fun _ => True) (.slice A9 y2.length c9) y2 ∧ w'.heap[w.heap.size + 1]? = some (.cells #[.int .u64 y0, .int .u64 y1, .slice A9 y2.length c9] 34 (0, 0)))))
 case atStart => exact ⟨B1, B3, .inl ⟨rfl, rfl, rfl, B2.out⟩⟩
 case round =>
  clear B1 B2 B3
  obtain ⟨B1, B3, hcase⟩ := hrel
  rcases hcase with ⟨rfl, rfl, rfl, hb2⟩ | ⟨rfl, rfl, rfl, A9, c9, hS9, hb2⟩
  ·have B2 := Aside0.mk hb2
   have BG9 := Aside0.mk (blk_below BG.out B3.out)
   clear hb2
   have t0 : World.cell? wr ⟨w.heap.size, 0, none⟩ = some (.int .i64 a0) := blk_cell B1.out 0
   have t1 : World.cell? wr ⟨w.heap.size, 1, none⟩ = some (.int .i64 a1) := blk_cell B1.out 1
   have t2 : World.cell? wr ⟨w.heap.size, 2, none⟩ = some (.int .i64 a2) := blk_cell B1.out 2
   have t3 : World.cell? wr ⟨w.heap.size, 3, none⟩ = some (.int .u64 a3) := blk_cell B1.out 3
   have t4 : World.cell? wr ⟨w.heap.size, 4, none⟩ = some (.int .u64 a4) := blk_cell B1.out 4
   have t5 : World.cell? wr ⟨w.heap.size, 5, none⟩ = some (.int .u64 a5) := blk_cell B1.out 5
   have s0 : World.cell? wr ⟨w.heap.size + 1, 0, none⟩ = some (.int .u64 b) := blk_cell B2.out 0
   have s1 : World.cell? wr ⟨w.heap.size + 1, 1, none⟩ = some (.int .u64 e) := blk_cell B2.out 1
   have s2 : World.cell? wr ⟨w.heap.size + 1, 2, none⟩ = some (.slice A hs.length c) := blk_cell B2.out 2
   have g3 : World.cell? wr ⟨g, 3, none⟩ = some (.int .u64 b2) := blk_cell BG9.out 3
   have g4 : World.cell? wr ⟨g, 4, none⟩ = some (.int .u64 e2) := blk_cell BG9.out 4
   have g5 : World.cell? wr ⟨g, 5, none⟩ = some (.slice A2 hs2.length c2) := blk_cell BG9.out 5
   have t_ : ∀ o, (wr.alloc o).heap[w.heap.size]? = some (.cells #[.int .i64 a0, .int .i64 a1, .int .i64 a2, .int .u64 a3, .int .u64 a4, .int .u64 a5] 24 (0, 0)) := fun o => blk_alloc B1.out o
   have s_ : ∀ o, (wr.alloc o).heap[w.heap.size + 1]? = some (.cells #[.int .u64 b, .int .u64 e, .slice A hs.length c] 34 (0, 0)) := fun o => blk_alloc B2.out o
   have u0_ : ∀ o, World.cell? (wr.alloc o) ⟨w.heap.size, 0, none⟩ = some (.int .i64 a0) := fun o => blk_cell (t_ o) 0
   have u1_ : ∀ o, World.cell? (wr.alloc o) ⟨w.heap.size, 1, none⟩ = some (.int .i64 a1) := fun o => blk_cell (t_ o) 1
   have u2_ : ∀ o, World.cell? (wr.alloc o) ⟨w.heap.size, 2, none⟩ = some (.int .i64 a2) := fun o => blk_cell (t_ o) 2
   have u3_ : ∀ o, World.cell? (wr.alloc o) ⟨w.heap.size, 3, none⟩ = some (.int .u64 a3) := fun o => blk_cell (t_ o) 3
   have u4_ : ∀ o, World.cell? (wr.alloc o) ⟨w.heap.size, 4, none⟩ = some (.int .u64 a4) := fun o => blk_cell (t_ o) 4
   have u5_ : ∀ o, World.cell? (wr.alloc o) ⟨w.heap.size, 5, none⟩ = some (.int .u64 a5) := fun o => blk_cell (t_ o) 5
   have w0_ : ∀ o, World.cell? (wr.alloc o) ⟨w.heap.size + 1, 0, none⟩ = some (.int .u64 b) := fun o => blk_cell (s_ o) 0
   have w1_ : ∀ o, World.cell? (wr.alloc o) ⟨w.heap.size + 1, 1, none⟩ = some (.int .u64 e) := fun o => blk_cell (s_ o) 1
   have w2_ : ∀ o, World.cell? (wr.alloc o) ⟨w.heap.size + 1, 2, none⟩ = some (.slice A hs.length c) := fun o => blk_cell (s_ o) 2
   go_wp2_with (fail)
   have ho := below_alloc B3.out (Obj.cells #[Value.int IntKind.u64 b2, Value.int IntKind.u64 e2, Value.slice A2 hs2.length c2] 34)
   have B1b := blk_alloc B1.out (Obj.cells #[Value.int IntKind.u64 b2, Value.int IntKind.u64 e2, Value.slice A2 hs2.length c2] 34)
   have B2b := blk_alloc B2.out (Obj.cells #[Value.int IntKind.u64 b2, Value.int IntKind.u64 e2, Value.slice A2 hs2.length c2] 34)
   refine (impl_AppendRange.calls k a0 a1 a2 a3 a4 a5 b e A c hs b2 e2 A2 c2 hs2 y0 y1 y2 y3 y4 _ (HG.out.below ho) (Kd.C_below HR.out ho) HC.out (Kd.C_below HR2.out ho) HC2.out HA.out).mono ?_
   rintro ex w8 ⟨v0, v1, rfl, hS, _, hb8⟩
   obtain ⟨A9, c9, rfl⟩ := Kd.S_slice hS
   have HS8 := Aside0.mk (Kd.S_lower hS ho.size)
   have HB8 := Aside0.mk (below_step ho hb8)
   have B1c := Aside0.mk (blk_below B1b hb8)
   have B2c := Aside0.mk (blk_below B2b hb8)
   clear hS hb8 ho B1b B2b t0 t1 t2 t3 t4 t5 s0 s1 s2 g3 g4 g5 t_ s_ u0_ u1_ u2_ u3_ u4_ u5_ w0_ w1_ w2_
   have s0 : ∀ o, World.cell? (w8.alloc o) ⟨w.heap.size + 1, 0, none⟩ = some (.int .u64 b) := fun o => blk_cell (blk_alloc B2c.out o) 0
   have s1 : ∀ o, World.cell? (w8.alloc o) ⟨w.heap.size + 1, 1, none⟩ = some (.int .u64 e) := fun o => blk_cell (blk_alloc B2c.out o) 1
   have s2 : ∀ o, World.cell? (w8.alloc o) ⟨w.heap.size + 1, 2, none⟩ = some (.slice A hs.length c) := fun o => blk_cell (blk_alloc B2c.out o) 2
   have z_ : ∀ o j, World.frozen? (w8.alloc o) ⟨w.heap.size + 1, j, none⟩ = false := fun o j => blk_frozen (blk_alloc B2c.out o) j
   dsimp only
   go_wp2_with (fail)
   have q0 := blk_alloc B2c.out (Obj.cells #[Value.int IntKind.u64 y0, Value.int IntKind.u64 y1, Value.slice A9 y2.length c9] 34)
   have q1 := blk_alloc B1c.out (Obj.cells #[Value.int IntKind.u64 y0, Value.int IntKind.u64 y1, Value.slice A9 y2.length c9] 34)
   have q2 := below_alloc HB8.out (Obj.cells #[Value.int IntKind.u64 y0, Value.int IntKind.u64 y1, Value.slice A9 y2.length c9] 34)
   have q3 := Kd.S_alloc HS8.out (Obj.cells #[Value.int IntKind.u64 y0, Value.int IntKind.u64 y1, Value.slice A9 y2.length c9] 34)
   generalize w8.alloc (Obj.cells #[Value.int IntKind.u64 y0, Value.int IntKind.u64 y1, Value.slice A9 y2.length c9] 34) = W8 at q0 q1 q2 q3 ⊢
   have k1 := blk_set q0 0 (.int .u64 y0)
   have k2 := blk_set k1 1 (.int .u64 y1)
   have k3 := blk_set k2 2 (.slice A9 y2.length c9)
   have hne : w.heap.size ≠ w.heap.size + 1 := by omega
   go_roundg 0
   case measure => omega
   case rel =>
    refine ⟨⟨?_⟩, ⟨?_⟩, .inr ⟨rfl, rfl, rfl, A9, c9, ?_, k3⟩⟩
    ·rw [Below.heap_setCell _ ⟨w.heap.size + 1, 2, none⟩ _ _ hne, Below.heap_setCell _ ⟨w.heap.size + 1, 1, none⟩ _ _ hne, Below.heap_setCell _ ⟨w.heap.size + 1, 0, none⟩ _ _ hne]
     exact q1
    ·exact ((q2.setCell (p := ⟨w.heap.size + 1, 0, none⟩) (Nat.le_succ _) _).setCell (p := ⟨w.heap.size + 1, 1, none⟩) (Nat.le_succ _) _).setCell (p := ⟨w.heap.size + 1, 2, none⟩) (Nat.le_succ _) _
    ·exact Kd.S_set (Kd.S_set (Kd.S_set q3 q0 (by decide) 0 _) k1 (by decide) 1 _) k2 (by decide) 2 _
  ·have B2 := Aside0.mk hb2
   have HS9 := Aside0.mk hS9
   clear hb2 hS9
   have t0 : World.cell? wr ⟨w.heap.size, 0, none⟩ = some (.int .i64 a0) := blk_cell B1.out 0
   have t1 : World.cell? wr ⟨w.heap.size, 1, none⟩ = some (.int .i64 a1) := blk_cell B1.out 1
   have t2 : World.cell? wr ⟨w.heap.size, 2, none⟩ = some (.int .i64 a2) := blk_cell B1.out 2
   have t3 : World.cell? wr ⟨w.heap.size, 3, none⟩ = some (.int .u64 a3) := blk_cell B1.out 3
   have t4 : World.cell? wr ⟨w.heap.size, 4, none⟩ = some (.int .u64 a4) := blk_cell B1.out 4
   have t5 : World.cell? wr ⟨w.heap.size, 5, none⟩ = some (.int .u64 a5) := blk_cell B1.out 5
   have s0 : World.cell? wr ⟨w.heap.size + 1, 0, none⟩ = some (.int .u64 y0) := blk_cell B2.out 0
   have s1 : World.cell? wr ⟨w.heap.size + 1, 1, none⟩ = some (.int .u64 y1) := blk_cell B2.out 1
   have s2 : World.cell? wr ⟨w.heap.size + 1, 2, none⟩ = some (.slice A9 y2.length c9) := blk_cell B2.out 2
   go_wp2_with (fail)
   refine (impl_RootHash.calls k a0 a1 a2 a3 a4 a5 y0 y1 A9 c9 y2 r0 r1 z _ (HG.out.below B3.out) (Kd.R_reads' (Kd.S_R HS9.out)).2.2 (Kd.R_reads' (Kd.S_R HS9.out)).2.1 HF.out).mono ?_
   rintro ex w9 ⟨v0, v1, rfl, hR, _, hb9⟩
   have HR9 := Aside0.mk (Kd.R_lower hR B3.out.size)
   have HB9 := Aside0.mk (below_step B3.out hb9)
   clear hR hb9
   dsimp only
   cases y4
   all_goals
    go_wp2_with (fail)
    go_ret2
    exact ⟨_, rfl, HR9.out, HB9.out⟩
end Go.Proofs.YtielnphmcaecdaaDoor.PAll
