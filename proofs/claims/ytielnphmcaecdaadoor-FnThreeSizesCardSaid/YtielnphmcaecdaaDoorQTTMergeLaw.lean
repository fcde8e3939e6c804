-- Written by a program of this session (wip/tools)
import Derived.Test.YtielnphmcaecdaaDoorQTTExtGrow
import Derived.Test.YtielnphmcaecdaaDoorQTTExtConMade
import Derived.Test.YtielnphmcaecdaaDoorQTTPAllx1
import Derived.Test.YtielnphmcaecdaaDoorQTTPAllx26
import Derived.Test.YtielnphmcaecdaaDoorQTTPAllx11
import Derived.Test.YtielnphmcaecdaaDoorQTTNds
import Derived.Test.YtielnphmcaecdaaDoorQTTExtRangeO
import Derived.Test.YtielnphmcaecdaaDoorQTTPAllx8
import Derived.Test.YtielnphmcaecdaaDoorQTTPAllx6
import Derived.Test.YtielnphmcaecdaaDoorQTTExtTreeB
set_option maxHeartbeats 8000000
set_option maxRecDepth 100000
set_option linter.unusedVariables false
set_option linter.unusedSimpArgs false
namespace Go.Proofs.YtielnphmcaecdaaDoor.PAll
open Go.IntWalk Go.RowKit Go.Proofs.YtielnphmcaecdaaDoor.Num Go.Proofs.YtielnphmcaecdaaDoor.Mth Go.Proofs.YtielnphmcaecdaaDoorW.PrintWords Go.Proofs.YtielnphmcaecdaaDoorW.PrintLast Go.Proofs.YtielnphmcaecdaaDoorW.PrintMore
theorem three_new (w : World) (o1 o2 o3 : Obj) : (((w.alloc o1).alloc o2).alloc o3).heap[w.heap.size]? = some o1 ∧ (((w.alloc o1).alloc o2).alloc o3).heap[w.heap.size + 1]? = some o2 ∧ (((w.alloc o1).alloc o2).alloc o3).heap[w.heap.size + 2]? = some o3 ∧ Below w.heap.size w (((w.alloc o1).alloc o2).alloc o3) := by
 obtain ⟨h1, h2, h3⟩ := two_new w o1 o2
 have h := blk_new ((w.alloc o1).alloc o2) o3
 rw [show ((w.alloc o1).alloc o2).heap.size = w.heap.size + 2 by simp] at h
 exact ⟨blk_alloc h1 _, blk_alloc h2 _, h, below_alloc h3 _⟩
theorem toy_cells {W : World} {g : Nat} {a0 a1 a2 a3 a4 a5 : Int} (h : W.heap[g]? = some (Obj.cells #[.int .i64 a0, .int .i64 a1, .int .i64 a2, .int .u64 a3, .int .u64 a4, .int .u64 a5] 24)) : W.cell? ⟨g, 0, none⟩ = some (.int .i64 a0) ∧ W.cell? ⟨g, 1, none⟩ = some (.int .i64 a1) ∧ W.cell? ⟨g, 2, none⟩ = some (.int .i64 a2) ∧ W.cell? ⟨g, 3, none⟩ = some (.int .u64 a3) ∧ W.cell? ⟨g, 4, none⟩ = some (.int .u64 a4) ∧ W.cell? ⟨g, 5, none⟩ = some (.int .u64 a5) :=
 ⟨blk_cell h 0, blk_cell h 1, blk_cell h 2, blk_cell h 3, blk_cell h 4, blk_cell h 5⟩
theorem toy_cellsA {W : World} {g : Nat} {a0 a1 a2 a3 a4 a5 : Int} (h : W.heap[g]? = some (Obj.cells #[.int .i64 a0, .int .i64 a1, .int .i64 a2, .int .u64 a3, .int .u64 a4, .int .u64 a5] 24)) : (∀ o, (W.alloc o).cell? ⟨g, 0, none⟩ = some (.int .i64 a0)) ∧ (∀ o, (W.alloc o).cell? ⟨g, 1, none⟩ = some (.int .i64 a1)) ∧ (∀ o, (W.alloc o).cell? ⟨g, 2, none⟩ = some (.int .i64 a2)) ∧ (∀ o, (W.alloc o).cell? ⟨g, 3, none⟩ = some (.int .u64 a3)) ∧ (∀ o, (W.alloc o).cell? ⟨g, 4, none⟩ = some (.int .u64 a4)) ∧ ∀ o, (W.alloc o).cell? ⟨g, 5, none⟩ = some (.int .u64 a5) :=
 ⟨fun o => blk_cell (blk_alloc h o) 0, fun o => blk_cell (blk_alloc h o) 1, fun o => blk_cell (blk_alloc h o) 2, fun o => blk_cell (blk_alloc h o) 3, fun o => blk_cell (blk_alloc h o) 4, fun o => blk_cell (blk_alloc h o) 5⟩
theorem rng_cells {W : World} {g : Nat} {b e : Int} {A : Option Addr} {n c : Nat} (h : W.heap[g]? = some (Obj.cells #[.int .u64 b, .int .u64 e, .slice A n c] 34)) : W.cell? ⟨g, 0, none⟩ = some (.int .u64 b) ∧ W.cell? ⟨g, 1, none⟩ = some (.int .u64 e) ∧ W.cell? ⟨g, 2, none⟩ = some (.slice A n c) := ⟨blk_cell h 0, blk_cell h 1, blk_cell h 2⟩
theorem rng_cellsA {W : World} {g : Nat} {b e : Int} {A : Option Addr} {n c : Nat} (h : W.heap[g]? = some (Obj.cells #[.int .u64 b, .int .u64 e, .slice A n c] 34)) : (∀ o, (W.alloc o).cell? ⟨g, 0, none⟩ = some (.int .u64 b)) ∧ (∀ o, (W.alloc o).cell? ⟨g, 1, none⟩ = some (.int .u64 e)) ∧ ∀ o, (W.alloc o).cell? ⟨g, 2, none⟩ = some (.slice A n c) := ⟨fun o => blk_cell (blk_alloc h o) 0, fun o => blk_cell (blk_alloc h o) 1, fun o => blk_cell (blk_alloc h o) 2⟩
theorem row34 {w : World} {g : Nat} {b e b2 e2 : Int} {hs hs2 : List (List Int)} {A A2 : Option Addr} {c c2 : Nat} (hb : w.heap[g]? = some (.cells #[.int .u64 b, .int .u64 e, .slice A hs.length c, .int .u64 b2, .int .u64 e2, .slice A2 hs2.length c2] 34 (0, 0))) (hr : Kd.C (Kd.slice 5 (Kd.int .u8)) w A hs.length hs) (hc : hs.length ≤ c) (hr2 : Kd.C (Kd.slice 5 (Kd.int .u8)) w A2 hs2.length hs2) (hc2 : hs2.length ≤ c2) :
 Kd.C k34 w (some ⟨g, 0, none⟩) 2 [⟨b, e, hs⟩, ⟨b2, e2, hs2⟩] := by
 refine ⟨rfl, by decide, fun _ => ⟨_, rfl, fun j p hj => ?_⟩⟩
 rcases j with _ | _ | j
 ·have e1 : (⟨b, e, hs⟩ : S34) = p := by simpa using hj
  subst e1
  refine ⟨_, rfl, k34_mk w ⟨b, e, hs⟩ hc hr, fun i u hu => ?_⟩
  rcases i with _ | _ | _ | i
  ·have e3 : Value.int .u64 b = u := by simpa using hu
   subst e3; exact blk_cell hb 0
  ·have e3 : Value.int .u64 e = u := by simpa using hu
   subst e3; exact blk_cell hb 1
  ·have e3 : Value.slice A hs.length c = u := by simpa using hu
   subst e3; exact blk_cell hb 2
  ·simp at hu
 ·have e1 : (⟨b2, e2, hs2⟩ : S34) = p := by simpa using hj
  subst e1
  refine ⟨_, rfl, k34_mk w ⟨b2, e2, hs2⟩ hc2 hr2, fun i u hu => ?_⟩
  rcases i with _ | _ | _ | i
  ·have e3 : Value.int .u64 b2 = u := by simpa using hu
   subst e3; exact blk_cell hb 3
  ·have e3 : Value.int .u64 e2 = u := by simpa using hu
   subst e3; exact blk_cell hb 4
  ·have e3 : Value.slice A2 hs2.length c2 = u := by simpa using hu
   subst e3; exact blk_cell hb 5
  ·simp at hu
 ·simp at hj
def ConsMain (k : Nat) (a0 a1 a2 a3 a4 a5 b e : Int) (hs : List (List Int)) (b2 e2 : Int) (hs2 : List (List Int)) : Prop :=
 ∃ (s n : Nat) (r1 : List Int) (v1 : List S51) (y0 y1 : Int) (y2 : List (List Int)) (y3 : List S51) (r2 : List Int) (v2 : List S51) (hh proof : List (List Int)) (q2 : List Int) (pp : List S53), e = (s : Int) ∧ e2 = (n : Int) ∧ (0 < s ∧ s ≤ n ∧ n < 18446744073709551616) ∧ impl_RootHash.f k a0 a1 a2 a3 a4 a5 b e hs = some (r1, v1, true) ∧ impl_AppendRange.f k a0 a1 a2 a3 a4 a5 b e hs b2 e2 hs2 = some (y0, y1, y2, y3, true) ∧ impl_RootHash.f k a0 a1 a2 a3 a4 a5 y0 y1 y2 = some (r2, v2, true) ∧ laws_growthHashes.f k ((conPlan s n).1.map inode) [⟨b, e, hs⟩, ⟨b2, e2, hs2⟩] = some (hh, true) ∧ impl_ConsistencyHashes.f k a0 a1 a2 a3 a4 a5 e e2 hh = some (proof, true) ∧ impl_VerifyConsistency.f k a0 a1 a2 a3 a4 a5 e e2 proof r1 r2 = some (0, q2) ∧ spec_ProofParts.f k e e2 = some pp ∧ proof.length = pp.length
def ConsPl (k : Nat) (a0 a1 a2 a3 a4 a5 b e : Int) (hs : List (List Int)) (b2 e2 : Int) (hs2 : List (List Int)) : Prop :=
 laws_zzFits7.f k b e hs = some false ∨ (laws_zzFits7.f k b e hs = some true ∧ laws_zzFits7.f k b2 e2 hs2 = some false) ∨ (laws_zzFits7.f k b e hs = some true ∧ laws_zzFits7.f k b2 e2 hs2 = some true ∧ (e = 0 ∨ (e ≠ 0 ∧ laws_growthNext.f k [⟨b, e, hs⟩, ⟨b2, e2, hs2⟩] = some false) ∨ (e ≠ 0 ∧ laws_growthNext.f k [⟨b, e, hs⟩, ⟨b2, e2, hs2⟩] = some true ∧ ConsMain k a0 a1 a2 a3 a4 a5 b e hs b2 e2 hs2)))
theorem laws_FnConsistencyOfRanges.true_calls (k : Nat) (a0 a1 a2 a3 a4 a5 b e : Int) (A : Option Addr) (c : Nat) (hs : List (List Int)) (b2 e2 : Int) (A2 : Option Addr) (c2 : Nat) (hs2 : List (List Int)) (w : World) (hG : Glob w)
 (hr : Kd.C (Kd.slice 5 (Kd.int .u8)) w A hs.length hs) (hc : hs.length ≤ c) (hr2 : Kd.C (Kd.slice 5 (Kd.int .u8)) w A2 hs2.length hs2) (hc2 : hs2.length ≤ c2) (h : ConsPl k a0 a1 a2 a3 a4 a5 b e hs b2 e2 hs2) :
 Calls Tryd.prog 41 #[.agg #[.int .i64 a0, .int .i64 a1, .int .i64 a2, .int .u64 a3, .int .u64 a4, .int .u64 a5], .agg #[.int .u64 b, .int .u64 e, .slice A hs.length c], .agg #[.int .u64 b2, .int .u64 e2, .slice A2 hs2.length c2]] w fun ex w' => ex = .returned (.bool true) ∧ Below w.heap.size w w' := by
 have HG := Aside0.mk hG
 have HR := Aside0.mk hr
 have HC := Aside0.mk hc
 have HR2 := Aside0.mk hr2
 have HC2 := Aside0.mk hc2
 clear hG hr hc hr2 hc2
 have hn : ∃ t1, laws_zzFits7.f k b e hs = some t1 ∧ (t1 = true → ∃ t2, laws_zzFits7.f k b2 e2 hs2 = some t2 ∧ (t2 = true → e = 0 ∨ e ≠ 0 ∧ ∃ t4, laws_growthNext.f k [⟨b, e, hs⟩, ⟨b2, e2, hs2⟩] = some t4 ∧ (t4 = true → ConsMain k a0 a1 a2 a3 a4 a5 b e hs b2 e2 hs2))) := by
  rcases h with h | ⟨h1, h2⟩ | ⟨h1, h2, h | ⟨h3, h4⟩ | ⟨h3, h4, h5⟩⟩
  ·exact ⟨_, h, fun h => by cases h⟩
  ·exact ⟨_, h1, fun _ => ⟨_, h2, fun h => by cases h⟩⟩
  ·exact ⟨_, h1, fun _ => ⟨_, h2, fun _ => .inl h⟩⟩
  ·exact ⟨_, h1, fun _ => ⟨_, h2, fun _ => .inr ⟨h3, _, h4, fun h => by cases h⟩⟩⟩
  ·exact ⟨_, h1, fun _ => ⟨_, h2, fun _ => .inr ⟨h3, _, h4, fun _ => h5⟩⟩⟩
 clear h
 obtain ⟨w1_, h1, hx⟩ := hn
 have H1_ := Aside0.mk h1
 have HX_ := Aside0.mk hx
 clear h1 hx
 go_enter Tryd.func41, Tryd.ntmps41
 go_wp2_with (fail)
 obtain ⟨n1, n2, n3, n4⟩ := three_new w (Obj.cells #[Value.int IntKind.i64 a0, Value.int IntKind.i64 a1, Value.int IntKind.i64 a2, Value.int IntKind.u64 a3, Value.int IntKind.u64 a4, Value.int IntKind.u64 a5] 24) (Obj.cells #[Value.int IntKind.u64 b, Value.int IntKind.u64 e, Value.slice A hs.length c] 34) (Obj.cells #[Value.int IntKind.u64 b2, Value.int IntKind.u64 e2, Value.slice A2 hs2.length c2] 34)
 have B1 := Aside0.mk n1
 have B2 := Aside0.mk n2
 have B3 := Aside0.mk n3
 have HB := Aside0.mk n4
 generalize ((w.alloc (Obj.cells #[Value.int IntKind.i64 a0, Value.int IntKind.i64 a1, Value.int IntKind.i64 a2, Value.int IntKind.u64 a3, Value.int IntKind.u64 a4, Value.int IntKind.u64 a5] 24)).alloc (Obj.cells #[Value.int IntKind.u64 b, Value.int IntKind.u64 e, Value.slice A hs.length c] 34)).alloc (Obj.cells #[Value.int IntKind.u64 b2, Value.int IntKind.u64 e2, Value.slice A2 hs2.length c2] 34) = W0 at n1 n2 n3 n4 B1 B2 B3 HB ⊢
 clear n1 n2 n3 n4
 obtain ⟨t0, t1, t2, t3, t4, t5⟩ := toy_cells B1.out
 obtain ⟨s0, s1, s2⟩ := rng_cells B2.out
 obtain ⟨m0, m1, m2⟩ := rng_cells B3.out
 go_wp2_with (fail)
 rcases w1_ with _ | _
 ·refine (laws_zzFits7.calls k b e A c hs false _ (Kd.C_below HR.out HB.out) HC.out H1_.out).mono ?_
  rintro ex W1 ⟨rfl, hb⟩
  have HB' := Aside0.mk (below_step HB.out hb)
  clear HB hb
  dsimp only
  go_wp2_with (fail)
  go_ret
  exact ⟨rfl, HB'.out⟩
 refine (laws_zzFits7.calls k b e A c hs true _ (Kd.C_below HR.out HB.out) HC.out H1_.out).mono ?_
 rintro ex W1 ⟨rfl, hb⟩
 have HB' := Aside0.mk (below_step HB.out hb)
 replace B1 := Aside0.mk (blk_below B1.out hb)
 replace B2 := Aside0.mk (blk_below B2.out hb)
 replace B3 := Aside0.mk (blk_below B3.out hb)
 clear HB hb t0 t1 t2 t3 t4 t5 s0 s1 s2 m0 m1 m2
 have HB := HB'
 clear HB'
 obtain ⟨t0, t1, t2, t3, t4, t5⟩ := toy_cells B1.out
 obtain ⟨s0, s1, s2⟩ := rng_cells B2.out
 obtain ⟨m0, m1, m2⟩ := rng_cells B3.out
 dsimp only
 go_wp2_with (fail)
 obtain ⟨w2_, h2, hx⟩ := HX_.out (by trivial)
 clear HX_
 have H2_ := Aside0.mk h2
 have HX_ := Aside0.mk hx
 clear h2 hx
 rcases w2_ with _ | _
 ·refine (laws_zzFits7.calls k b2 e2 A2 c2 hs2 false _ (Kd.C_below HR2.out HB.out) HC2.out H2_.out).mono ?_
  rintro ex W2 ⟨rfl, hb⟩
  have HB' := Aside0.mk (below_step HB.out hb)
  clear HB hb
  dsimp only
  go_wp2_with (fail)
  go_ret
  exact ⟨rfl, HB'.out⟩
 refine (laws_zzFits7.calls k b2 e2 A2 c2 hs2 true _ (Kd.C_below HR2.out HB.out) HC2.out H2_.out).mono ?_
 rintro ex W2 ⟨rfl, hb⟩
 have HB' := Aside0.mk (below_step HB.out hb)
 replace B1 := Aside0.mk (blk_below B1.out hb)
 replace B2 := Aside0.mk (blk_below B2.out hb)
 replace B3 := Aside0.mk (blk_below B3.out hb)
 clear HB hb t0 t1 t2 t3 t4 t5 s0 s1 s2 m0 m1 m2
 have HB := HB'
 clear HB'
 obtain ⟨t0, t1, t2, t3, t4, t5⟩ := toy_cells B1.out
 obtain ⟨s0, s1, s2⟩ := rng_cells B2.out
 obtain ⟨m0, m1, m2⟩ := rng_cells B3.out
 dsimp only
 rcases HX_.out (by trivial) with h3 | ⟨h3, w4_, h4, hx⟩
 ·have z0 : (e == 0) = true := beq_iff_eq.mpr h3
  clear h3
  go_wp2_with (fail)
  go_ret
  exact ⟨rfl, HB.out⟩
 have z0 : (e == 0) = false := beq_eq_false_iff_ne.mpr h3
 clear HX_
 have H3_ := Aside0.mk h3
 have H4_ := Aside0.mk h4
 have HX_ := Aside0.mk hx
 clear h3 h4 hx
 go_wp2_with (fail)
 rcases w4_ with _ | _
 ·have ho := below_alloc HB.out (Obj.cells #[Value.int IntKind.u64 b, Value.int IntKind.u64 e, Value.slice A hs.length c, Value.int IntKind.u64 b2, Value.int IntKind.u64 e2, Value.slice A2 hs2.length c2] 34)
  have hn := blk_new W2 (Obj.cells #[Value.int IntKind.u64 b, Value.int IntKind.u64 e, Value.slice A hs.length c, Value.int IntKind.u64 b2, Value.int IntKind.u64 e2, Value.slice A2 hs2.length c2] 34)
  have hba := below_alloc (Below.refl W2.heap.size W2) (Obj.cells #[Value.int IntKind.u64 b, Value.int IntKind.u64 e, Value.slice A hs.length c, Value.int IntKind.u64 b2, Value.int IntKind.u64 e2, Value.slice A2 hs2.length c2] 34)
  refine (laws_growthNext.calls k (some ⟨W2.heap.size, 0, none⟩) 2 [⟨b, e, hs⟩, ⟨b2, e2, hs2⟩] false _ (row34 hn (Kd.C_below HR.out ho) HC.out (Kd.C_below HR2.out ho) HC2.out) (Nat.le_refl _) H4_.out).mono ?_
  rintro ex W3 ⟨rfl, hb9⟩
  have hb := below_step hba hb9
  have HB' := Aside0.mk (below_step HB.out hb)
  replace B1 := Aside0.mk (blk_below B1.out hb)
  replace B2 := Aside0.mk (blk_below B2.out hb)
  replace B3 := Aside0.mk (blk_below B3.out hb)
  clear HB hb hb9 hba ho hn t0 t1 t2 t3 t4 t5 s0 s1 s2 m0 m1 m2
  have HB := HB'
  clear HB'
  dsimp only
  go_wp2_with (fail)
  go_ret
  exact ⟨rfl, HB.out⟩
 have ho := below_alloc HB.out (Obj.cells #[Value.int IntKind.u64 b, Value.int IntKind.u64 e, Value.slice A hs.length c, Value.int IntKind.u64 b2, Value.int IntKind.u64 e2, Value.slice A2 hs2.length c2] 34)
 have hn := blk_new W2 (Obj.cells #[Value.int IntKind.u64 b, Value.int IntKind.u64 e, Value.slice A hs.length c, Value.int IntKind.u64 b2, Value.int IntKind.u64 e2, Value.slice A2 hs2.length c2] 34)
 have hba := below_alloc (Below.refl W2.heap.size W2) (Obj.cells #[Value.int IntKind.u64 b, Value.int IntKind.u64 e, Value.slice A hs.length c, Value.int IntKind.u64 b2, Value.int IntKind.u64 e2, Value.slice A2 hs2.length c2] 34)
 refine (laws_growthNext.calls k (some ⟨W2.heap.size, 0, none⟩) 2 [⟨b, e, hs⟩, ⟨b2, e2, hs2⟩] true _ (row34 hn (Kd.C_below HR.out ho) HC.out (Kd.C_below HR2.out ho) HC2.out) (Nat.le_refl _) H4_.out).mono ?_
 rintro ex W3 ⟨rfl, hb9⟩
 have hb := below_step hba hb9
 have HB' := Aside0.mk (below_step HB.out hb)
 replace B1 := Aside0.mk (blk_below B1.out hb)
 replace B2 := Aside0.mk (blk_below B2.out hb)
 replace B3 := Aside0.mk (blk_below B3.out hb)
 clear HB hb hb9 hba ho hn t0 t1 t2 t3 t4 t5 s0 s1 s2 m0 m1 m2
 have HB := HB'
 clear HB'
 obtain ⟨t0, t1, t2, t3, t4, t5⟩ := toy_cells B1.out
 obtain ⟨s0, s1, s2⟩ := rng_cells B2.out
 obtain ⟨m0, m1, m2⟩ := rng_cells B3.out
 dsimp only
 go_wp2_with (fail)
 obtain ⟨s, n, r1, v1, y0, y1, y2, y3, r2, v2, hh, proof, q2, pp, rfl, rfl, hsn, i1, i2, i3, i4, i5, i6, i7, i8⟩ := HX_.out (by trivial)
 clear HX_
 have HSN_ := Aside0.mk hsn
 have I1_ := Aside0.mk i1
 have I2_ := Aside0.mk i2
 have I3_ := Aside0.mk i3
 have I4_ := Aside0.mk i4
 have I5_ := Aside0.mk i5
 have I6_ := Aside0.mk i6
 have I7_ := Aside0.mk i7
 have I8_ := Aside0.mk i8
 clear hsn i1 i2 i3 i4 i5 i6 i7 i8
 have ho := below_alloc HB.out (Obj.cells #[Value.int IntKind.u64 b, Value.int IntKind.u64 (s : Int), Value.slice A hs.length c] 34)
 have hn := blk_new W3 (Obj.cells #[Value.int IntKind.u64 b, Value.int IntKind.u64 (s : Int), Value.slice A hs.length c] 34)
 have hba := below_alloc (Below.refl W3.heap.size W3) (Obj.cells #[Value.int IntKind.u64 b, Value.int IntKind.u64 (s : Int), Value.slice A hs.length c] 34)
 refine (growthRoot1.calls k a0 a1 a2 a3 a4 a5 b (s : Int) W3.heap.size A c hs r1 v1 true _ (HG.out.below ho) hn (Kd.C_below HR.out ho) HC.out I1_.out).mono ?_
 rintro ex W4 ⟨u1, rfl, hR1, hb9⟩
 have hb := below_step hba hb9
 have R1 := Aside0.mk hR1
 obtain ⟨D1, d1, rfl⟩ := Kd.R_slice hR1
 clear hR1
 have HB' := Aside0.mk (below_step HB.out hb)
 replace B1 := Aside0.mk (blk_below B1.out hb)
 replace B2 := Aside0.mk (blk_below B2.out hb)
 replace B3 := Aside0.mk (blk_below B3.out hb)
 clear HB hb hb9 hba ho hn t0 t1 t2 t3 t4 t5 s0 s1 s2 m0 m1 m2
 have HB := HB'
 clear HB'
 obtain ⟨t0, t1, t2, t3, t4, t5⟩ := toy_cells B1.out
 obtain ⟨s0, s1, s2⟩ := rng_cells B2.out
 obtain ⟨m0, m1, m2⟩ := rng_cells B3.out
 dsimp only
 go_wp2_with (fail)
 have ho := below_alloc HB.out (Obj.cells #[Value.int IntKind.u64 b, Value.int IntKind.u64 (s : Int), Value.slice A hs.length c, Value.int IntKind.u64 b2, Value.int IntKind.u64 (n : Int), Value.slice A2 hs2.length c2] 34)
 have hn := blk_new W4 (Obj.cells #[Value.int IntKind.u64 b, Value.int IntKind.u64 (s : Int), Value.slice A hs.length c, Value.int IntKind.u64 b2, Value.int IntKind.u64 (n : Int), Value.slice A2 hs2.length c2] 34)
 have hba := below_alloc (Below.refl W4.heap.size W4) (Obj.cells #[Value.int IntKind.u64 b, Value.int IntKind.u64 (s : Int), Value.slice A hs.length c, Value.int IntKind.u64 b2, Value.int IntKind.u64 (n : Int), Value.slice A2 hs2.length c2] 34)
 refine (growthRoot2.calls k a0 a1 a2 a3 a4 a5 b (s : Int) b2 (n : Int) W4.heap.size A c hs A2 c2 hs2 y0 y1 y2 y3 true r2 v2 true _ (HG.out.below ho) hn (Kd.C_below HR.out ho) HC.out (Kd.C_below HR2.out ho) HC2.out I2_.out I3_.out).mono ?_
 rintro ex W5 ⟨u2, rfl, hR2, hb9⟩
 have hb := below_step hba hb9
 have R2 := Aside0.mk hR2
 obtain ⟨D2, d2, rfl⟩ := Kd.R_slice hR2
 replace R1 := Aside0.mk (Kd.R_below R1.out hb)
 clear hR2
 have HB' := Aside0.mk (below_step HB.out hb)
 replace B1 := Aside0.mk (blk_below B1.out hb)
 replace B2 := Aside0.mk (blk_below B2.out hb)
 replace B3 := Aside0.mk (blk_below B3.out hb)
 clear HB hb hb9 hba ho hn t0 t1 t2 t3 t4 t5 s0 s1 s2 m0 m1 m2
 have HB := HB'
 clear HB'
 obtain ⟨t0, t1, t2, t3, t4, t5⟩ := toy_cells B1.out
 obtain ⟨s0, s1, s2⟩ := rng_cells B2.out
 obtain ⟨m0, m1, m2⟩ := rng_cells B3.out
 dsimp only
 go_wp2_with (fail)
 obtain ⟨ep1, ep2, hcm⟩ := conMade.calls s n HSN_.out.1 HSN_.out.2.1 HSN_.out.2.2 W5 (HG.out.below HB.out)
 refine (hcm).mono ?_
 rintro ex W6 ⟨u3, rfl, hR3, hb9⟩
 have hb := hb9
 have R3 := Aside0.mk hR3
 obtain ⟨D3, d3, rfl⟩ := Kd.R_slice hR3
 replace R1 := Aside0.mk (Kd.R_below R1.out hb)
 replace R2 := Aside0.mk (Kd.R_below R2.out hb)
 clear hR3 hcm
 have HB' := Aside0.mk (below_step HB.out hb)
 replace B1 := Aside0.mk (blk_below B1.out hb)
 replace B2 := Aside0.mk (blk_below B2.out hb)
 replace B3 := Aside0.mk (blk_below B3.out hb)
 clear HB hb hb9  t0 t1 t2 t3 t4 t5 s0 s1 s2 m0 m1 m2
 have HB := HB'
 clear HB'
 generalize hids : (conPlan s n).1.map inode = ids at R3 I4_ ⊢
 generalize hq1 : (((conPlan s n).2.1 : Nat) : Int) = pb at R3 ⊢
 generalize hq2 : (((conPlan s n).2.2 : Nat) : Int) = pe at R3 ⊢
 clear hids hq1 hq2
 obtain ⟨t0, t1, t2, t3, t4, t5⟩ := toy_cellsA B1.out
 obtain ⟨s0, s1, s2⟩ := rng_cellsA B2.out
 obtain ⟨m0, m1, m2⟩ := rng_cellsA B3.out
 have pr0 : World.cell? (W6.alloc (Obj.cells #[Value.slice D3 ids.length d3, Value.int IntKind.u64 ep1, Value.int IntKind.u64 ep2, Value.int IntKind.i64 pb, Value.int IntKind.i64 pe] 61)) ⟨W6.heap.size, 0, none⟩ = some (.slice D3 ids.length d3) := blk_cell (blk_new W6 (Obj.cells #[Value.slice D3 ids.length d3, Value.int IntKind.u64 ep1, Value.int IntKind.u64 ep2, Value.int IntKind.i64 pb, Value.int IntKind.i64 pe] 61)) 0
 dsimp only
 go_wp2_with (fail)
 have hbp := below_alloc (Below.refl W6.heap.size W6) (Obj.cells #[Value.slice D3 ids.length d3, Value.int IntKind.u64 ep1, Value.int IntKind.u64 ep2, Value.int IntKind.i64 pb, Value.int IntKind.i64 pe] 61)
 replace R1 := Aside0.mk (Kd.R_below R1.out hbp)
 replace R2 := Aside0.mk (Kd.R_below R2.out hbp)
 replace R3 := Aside0.mk (Kd.R_below R3.out hbp)
 replace B1 := Aside0.mk (blk_below B1.out hbp)
 replace B2 := Aside0.mk (blk_below B2.out hbp)
 replace B3 := Aside0.mk (blk_below B3.out hbp)
 replace HB := Aside0.mk (below_step HB.out hbp)
 have hz7 : (W6.alloc (Obj.cells #[Value.slice D3 ids.length d3, Value.int IntKind.u64 ep1, Value.int IntKind.u64 ep2, Value.int IntKind.i64 pb, Value.int IntKind.i64 pe] 61)).heap.size = W6.heap.size + 1 := by simp
 generalize W6.alloc (Obj.cells #[Value.slice D3 ids.length d3, Value.int IntKind.u64 ep1, Value.int IntKind.u64 ep2, Value.int IntKind.i64 pb, Value.int IntKind.i64 pe] 61) = W7 at R1 R2 R3 B1 B2 B3 HB hz7 ⊢
 rw [← hz7]
 clear hz7 hbp pr0 t0 t1 t2 t3 t4 t5 s0 s1 s2 m0 m1 m2
 have ho := below_alloc HB.out (Obj.cells #[Value.int IntKind.u64 b, Value.int IntKind.u64 (s : Int), Value.slice A hs.length c, Value.int IntKind.u64 b2, Value.int IntKind.u64 (n : Int), Value.slice A2 hs2.length c2] 34)
 have hn := blk_new W7 (Obj.cells #[Value.int IntKind.u64 b, Value.int IntKind.u64 (s : Int), Value.slice A hs.length c, Value.int IntKind.u64 b2, Value.int IntKind.u64 (n : Int), Value.slice A2 hs2.length c2] 34)
 have hba := below_alloc (Below.refl W7.heap.size W7) (Obj.cells #[Value.int IntKind.u64 b, Value.int IntKind.u64 (s : Int), Value.slice A hs.length c, Value.int IntKind.u64 b2, Value.int IntKind.u64 (n : Int), Value.slice A2 hs2.length c2] 34)
 refine (laws_growthHashes.calls k D3 d3 ids (fun q => q < (W7.alloc (Obj.cells #[Value.int IntKind.u64 b, Value.int IntKind.u64 (s : Int), Value.slice A hs.length c, Value.int IntKind.u64 b2, Value.int IntKind.u64 (n : Int), Value.slice A2 hs2.length c2] 34)).heap.size) (some ⟨W7.heap.size, 0, none⟩) 2 [⟨b, (s : Int), hs⟩, ⟨b2, (n : Int), hs2⟩] hh true _ (Kd.R_reads' (Kd.R_below R3.out hba)).2.2 (Kd.R_reads' R3.out).2.1 (Kd.V_mk (Nat.le_refl _) (Kd.C_F k34_heap (row34 hn (Kd.C_below HR.out ho) HC.out (Kd.C_below HR2.out ho) HC2.out))) I4_.out).mono ?_
 rintro ex W8 ⟨u4, rfl, hN4, hb9⟩
 have hb := below_step hba hb9
 have R4 := Aside0.mk hN4
 obtain ⟨D4, d4, rfl⟩ := Kd.N_slice hN4
 replace R1 := Aside0.mk (Kd.R_below R1.out hb)
 replace R2 := Aside0.mk (Kd.R_below R2.out hb)
 clear hN4
 have HB' := Aside0.mk (below_step HB.out hb)
 replace B1 := Aside0.mk (blk_below B1.out hb)
 replace B2 := Aside0.mk (blk_below B2.out hb)
 replace B3 := Aside0.mk (blk_below B3.out hb)
 clear HB hb hb9 hba ho hn 
 have HB := HB'
 clear HB'
 obtain ⟨t0, t1, t2, t3, t4, t5⟩ := toy_cells B1.out
 obtain ⟨s0, s1, s2⟩ := rng_cells B2.out
 obtain ⟨m0, m1, m2⟩ := rng_cells B3.out
 dsimp only
 go_wp2_with (fail)
 refine (impl_ConsistencyHashes.calls k a0 a1 a2 a3 a4 a5 (s : Int) (n : Int) D4 d4 hh proof true _ (HG.out.below HB.out) (Kd.N_reads' R4.out).2.2 (Kd.N_reads' R4.out).2.1 I5_.out).mono ?_
 rintro ex W9 ⟨u5, rfl, hS5, hb9⟩
 have hb := hb9
 have R5 := Aside0.mk (Kd.S_R hS5)
 obtain ⟨D5, d5, rfl⟩ := Kd.S_slice hS5
 replace R1 := Aside0.mk (Kd.R_below R1.out hb)
 replace R2 := Aside0.mk (Kd.R_below R2.out hb)
 clear hS5
 have HB' := Aside0.mk (below_step HB.out hb)
 replace B1 := Aside0.mk (blk_below B1.out hb)
 replace B2 := Aside0.mk (blk_below B2.out hb)
 replace B3 := Aside0.mk (blk_below B3.out hb)
 clear HB hb hb9  t0 t1 t2 t3 t4 t5 s0 s1 s2 m0 m1 m2
 have HB := HB'
 clear HB'
 obtain ⟨t0, t1, t2, t3, t4, t5⟩ := toy_cells B1.out
 obtain ⟨s0, s1, s2⟩ := rng_cells B2.out
 obtain ⟨m0, m1, m2⟩ := rng_cells B3.out
 dsimp only
 go_wp2_with (fail)
 refine (impl_VerifyConsistency.calls k a0 a1 a2 a3 a4 a5 (s : Int) (n : Int) D5 d5 proof D1 d1 r1 D2 d2 r2 0 q2 _ (HG.out.below HB.out) (Kd.R_reads' R5.out).2.2 (Kd.R_reads' R5.out).2.1 (Kd.R_reads' R1.out).2.2 (Kd.R_reads' R1.out).2.1 (Kd.R_reads' R2.out).2.2 (Kd.R_reads' R2.out).2.1 I6_.out).mono ?_
 rintro ex W10 ⟨u6, rfl, hR6, hb9⟩
 have hb := hb9
 clear hR6
 have HB' := Aside0.mk (below_step HB.out hb)
 replace B1 := Aside0.mk (blk_below B1.out hb)
 replace B2 := Aside0.mk (blk_below B2.out hb)
 replace B3 := Aside0.mk (blk_below B3.out hb)
 clear HB hb hb9  t0 t1 t2 t3 t4 t5 s0 s1 s2 m0 m1 m2
 have HB := HB'
 clear HB'
 obtain ⟨t0, t1, t2, t3, t4, t5⟩ := toy_cells B1.out
 obtain ⟨s0, s1, s2⟩ := rng_cells B2.out
 obtain ⟨m0, m1, m2⟩ := rng_cells B3.out
 dsimp only
 go_wp2_with (fail)
 refine (spec_ProofParts.calls k (s : Int) (n : Int) pp _ I7_.out).mono ?_
 rintro ex W11 ⟨u7, rfl, hR7, hb9⟩
 have hb := hb9
 obtain ⟨D7, d7, rfl⟩ := Kd.R_slice hR7
 clear hR7
 have HB' := Aside0.mk (below_step HB.out hb)
 replace B1 := Aside0.mk (blk_below B1.out hb)
 replace B2 := Aside0.mk (blk_below B2.out hb)
 replace B3 := Aside0.mk (blk_below B3.out hb)
 clear HB hb hb9  t0 t1 t2 t3 t4 t5 s0 s1 s2 m0 m1 m2
 have HB := HB'
 clear HB'
 have l1 : ((proof.length : Int) == (pp.length : Int)) = true := by rw [beq_iff_eq, I8_.out]
 have l2 : (proof.length == pp.length) = true := by rw [beq_iff_eq, I8_.out]
 dsimp only
 go_wp2_with (fail)
 go_ret
 exact ⟨rfl, HB.out⟩
theorem four_new (w : World) (o1 o2 o3 o4 : Obj) : ((((w.alloc o1).alloc o2).alloc o3).alloc o4).heap[w.heap.size]? = some o1 ∧ ((((w.alloc o1).alloc o2).alloc o3).alloc o4).heap[w.heap.size + 1]? = some o2 ∧ ((((w.alloc o1).alloc o2).alloc o3).alloc o4).heap[w.heap.size + 2]? = some o3 ∧ ((((w.alloc o1).alloc o2).alloc o3).alloc o4).heap[w.heap.size + 3]? = some o4 ∧ Below w.heap.size w ((((w.alloc o1).alloc o2).alloc o3).alloc o4) := by
 obtain ⟨h1, h2, h3, h4⟩ := three_new w o1 o2 o3
 have h := blk_new (((w.alloc o1).alloc o2).alloc o3) o4
 rw [show (((w.alloc o1).alloc o2).alloc o3).heap.size = w.heap.size + 3 by simp] at h
 exact ⟨blk_alloc h1 _, blk_alloc h2 _, blk_alloc h3 _, h, below_alloc h4 _⟩
theorem row34_3 {w : World} {g : Nat} {b0 e0 b1 e1 b2 e2 : Int} {hs0 hs1 hs2 : List (List Int)} {A0 A1 A2 : Option Addr} {c0 c1 c2 : Nat} (hb : w.heap[g]? = some (.cells #[.int .u64 b0, .int .u64 e0, .slice A0 hs0.length c0, .int .u64 b1, .int .u64 e1, .slice A1 hs1.length c1, .int .u64 b2, .int .u64 e2, .slice A2 hs2.length c2] 34 (0, 0))) (hr0 : Kd.C (Kd.slice 5 (Kd.int .u8)) w A0 hs0.length hs0) (hc0 : hs0.length ≤ c0) (hr1 : Kd.C (Kd.slice 5 (Kd.int .u8)) w A1 hs1.length hs1) (hc1 : hs1.length ≤ c1) (hr2 : Kd.C (Kd.slice 5 (Kd.int .u8)) w A2 hs2.length hs2) (hc2 : hs2.length ≤ c2) :
 Kd.C k34 w (some ⟨g, 0, none⟩) 3 [⟨b0, e0, hs0⟩, ⟨b1, e1, hs1⟩, ⟨b2, e2, hs2⟩] := by
 refine ⟨rfl, by decide, fun _ => ⟨_, rfl, fun j p hj => ?_⟩⟩
 rcases j with _ | _ | _ | j
 ·have h1 : (⟨b0, e0, hs0⟩ : S34) = p := by simpa using hj
  subst h1
  refine ⟨_, rfl, k34_mk w ⟨b0, e0, hs0⟩ hc0 hr0, fun i u hu => ?_⟩
  rcases i with _ | _ | _ | i
  ·have h3 : Value.int .u64 b0 = u := by simpa using hu
   subst h3; exact blk_cell hb 0
  ·have h3 : Value.int .u64 e0 = u := by simpa using hu
   subst h3; exact blk_cell hb 1
  ·have h3 : Value.slice A0 hs0.length c0 = u := by simpa using hu
   subst h3; exact blk_cell hb 2
  ·simp at hu
 ·have h1 : (⟨b1, e1, hs1⟩ : S34) = p := by simpa using hj
  subst h1
  refine ⟨_, rfl, k34_mk w ⟨b1, e1, hs1⟩ hc1 hr1, fun i u hu => ?_⟩
  rcases i with _ | _ | _ | i
  ·have h3 : Value.int .u64 b1 = u := by simpa using hu
   subst h3; exact blk_cell hb 3
  ·have h3 : Value.int .u64 e1 = u := by simpa using hu
   subst h3; exact blk_cell hb 4
  ·have h3 : Value.slice A1 hs1.length c1 = u := by simpa using hu
   subst h3; exact blk_cell hb 5
  ·simp at hu
 ·have h1 : (⟨b2, e2, hs2⟩ : S34) = p := by simpa using hj
  subst h1
  refine ⟨_, rfl, k34_mk w ⟨b2, e2, hs2⟩ hc2 hr2, fun i u hu => ?_⟩
  rcases i with _ | _ | _ | i
  ·have h3 : Value.int .u64 b2 = u := by simpa using hu
   subst h3; exact blk_cell hb 6
  ·have h3 : Value.int .u64 e2 = u := by simpa using hu
   subst h3; exact blk_cell hb 7
  ·have h3 : Value.slice A2 hs2.length c2 = u := by simpa using hu
   subst h3; exact blk_cell hb 8
  ·simp at hu
 ·simp at hj
def ThreeMain (k : Nat) (a0 a1 a2 a3 a4 a5 b0 e0 : Int) (hs0 : List (List Int)) (b1 e1 : Int) (hs1 : List (List Int)) (b2 e2 : Int) (hs2 : List (List Int)) : Prop :=
 ∃ (y2 : List (List Int)) (y3 : List S51) (z2 : List (List Int)) (z3 : List S51), impl_AppendRange.f k a0 a1 a2 a3 a4 a5 b0 e0 hs0 b1 e1 hs1 = some (0, e1, y2, y3, true) ∧ impl_AppendRange.f k a0 a1 a2 a3 a4 a5 b1 e1 hs1 b2 e2 hs2 = some (b1, e2, z2, z3, true) ∧ ConsPl k a0 a1 a2 a3 a4 a5 b0 e0 hs0 b1 e1 hs1 ∧ ConsPl k a0 a1 a2 a3 a4 a5 0 e1 y2 b2 e2 hs2 ∧ ConsPl k a0 a1 a2 a3 a4 a5 b0 e0 hs0 b1 e2 z2 ∧ spec_ProperRange.f k 0 e1 y2 = some true ∧ spec_ProperRange.f k b1 e2 z2 = some true
def ThreePl (k : Nat) (a0 a1 a2 a3 a4 a5 b0 e0 : Int) (hs0 : List (List Int)) (b1 e1 : Int) (hs1 : List (List Int)) (b2 e2 : Int) (hs2 : List (List Int)) : Prop :=
 laws_zzFits7.f k b0 e0 hs0 = some false ∨ (laws_zzFits7.f k b0 e0 hs0 = some true ∧ laws_zzFits7.f k b1 e1 hs1 = some false) ∨ (laws_zzFits7.f k b0 e0 hs0 = some true ∧ laws_zzFits7.f k b1 e1 hs1 = some true ∧ laws_zzFits7.f k b2 e2 hs2 = some false) ∨
  (laws_zzFits7.f k b0 e0 hs0 = some true ∧ laws_zzFits7.f k b1 e1 hs1 = some true ∧ laws_zzFits7.f k b2 e2 hs2 = some true ∧ (e0 = 0 ∨ (e0 ≠ 0 ∧ e1 = e0) ∨ (e0 ≠ 0 ∧ e1 ≠ e0 ∧ laws_growthNext.f k [⟨b0, e0, hs0⟩, ⟨b1, e1, hs1⟩, ⟨b2, e2, hs2⟩] = some false) ∨ (e0 ≠ 0 ∧ e1 ≠ e0 ∧ laws_growthNext.f k [⟨b0, e0, hs0⟩, ⟨b1, e1, hs1⟩, ⟨b2, e2, hs2⟩] = some true ∧ ThreeMain k a0 a1 a2 a3 a4 a5 b0 e0 hs0 b1 e1 hs1 b2 e2 hs2)))
theorem threeAll (k : Nat) (a0 a1 a2 a3 a4 a5 b0 e0 : Int) (A0 : Option Addr) (c0 : Nat) (hs0 : List (List Int)) (b1 e1 : Int) (A1 : Option Addr) (c1 : Nat) (hs1 : List (List Int)) (b2 e2 : Int) (A2 : Option Addr) (c2 : Nat) (hs2 : List (List Int)) (w : World) (hG : Glob w)
 (hr0 : Kd.C (Kd.slice 5 (Kd.int .u8)) w A0 hs0.length hs0) (hc0 : hs0.length ≤ c0) (hr1 : Kd.C (Kd.slice 5 (Kd.int .u8)) w A1 hs1.length hs1) (hc1 : hs1.length ≤ c1) (hr2 : Kd.C (Kd.slice 5 (Kd.int .u8)) w A2 hs2.length hs2) (hc2 : hs2.length ≤ c2) (h : ThreePl k a0 a1 a2 a3 a4 a5 b0 e0 hs0 b1 e1 hs1 b2 e2 hs2) :
 Calls Tryd.prog 11 #[.agg #[.int .i64 a0, .int .i64 a1, .int .i64 a2, .int .u64 a3, .int .u64 a4, .int .u64 a5], .agg #[.int .u64 b0, .int .u64 e0, .slice A0 hs0.length c0], .agg #[.int .u64 b1, .int .u64 e1, .slice A1 hs1.length c1], .agg #[.int .u64 b2, .int .u64 e2, .slice A2 hs2.length c2]] w fun ex w' => ex = .returned (.bool true) ∧ Below w.heap.size w w' := by
 have HG := Aside0.mk hG
 have HR0 := Aside0.mk hr0
 have HC0 := Aside0.mk hc0
 have HR1 := Aside0.mk hr1
 have HC1 := Aside0.mk hc1
 have HR2 := Aside0.mk hr2
 have HC2 := Aside0.mk hc2
 clear hG hr0 hc0 hr1 hc1 hr2 hc2
 have hn : ∃ w1_, laws_zzFits7.f k b0 e0 hs0 = some w1_ ∧ (w1_ = true → ∃ w2_, laws_zzFits7.f k b1 e1 hs1 = some w2_ ∧ (w2_ = true → ∃ w3_, laws_zzFits7.f k b2 e2 hs2 = some w3_ ∧ (w3_ = true → e0 = 0 ∨ e0 ≠ 0 ∧ (e1 = e0 ∨ e1 ≠ e0 ∧ ∃ w4_, laws_growthNext.f k [⟨b0, e0, hs0⟩, ⟨b1, e1, hs1⟩, ⟨b2, e2, hs2⟩] = some w4_ ∧ (w4_ = true → ThreeMain k a0 a1 a2 a3 a4 a5 b0 e0 hs0 b1 e1 hs1 b2 e2 hs2))))) := by
  rcases h with h | ⟨h1, h2⟩ | ⟨h1, h2, h3⟩ | ⟨h1, h2, h3, h | ⟨h4, h5⟩ | ⟨h4, h5, h6⟩ | ⟨h4, h5, h6, h7⟩⟩
  ·exact ⟨_, h, fun h => by cases h⟩
  ·exact ⟨_, h1, fun _ => ⟨_, h2, fun h => by cases h⟩⟩
  ·exact ⟨_, h1, fun _ => ⟨_, h2, fun _ => ⟨_, h3, fun h => by cases h⟩⟩⟩
  ·exact ⟨_, h1, fun _ => ⟨_, h2, fun _ => ⟨_, h3, fun _ => .inl h⟩⟩⟩
  ·exact ⟨_, h1, fun _ => ⟨_, h2, fun _ => ⟨_, h3, fun _ => .inr ⟨h4, .inl h5⟩⟩⟩⟩
  ·exact ⟨_, h1, fun _ => ⟨_, h2, fun _ => ⟨_, h3, fun _ => .inr ⟨h4, .inr ⟨h5, _, h6, fun h => by cases h⟩⟩⟩⟩⟩
  ·exact ⟨_, h1, fun _ => ⟨_, h2, fun _ => ⟨_, h3, fun _ => .inr ⟨h4, .inr ⟨h5, _, h6, fun _ => h7⟩⟩⟩⟩⟩
 clear h
 obtain ⟨w1_, h1, hx⟩ := hn
 have H1_ := Aside0.mk h1
 have HX_ := Aside0.mk hx
 clear h1 hx
 go_enter Tryd.func11, Tryd.ntmps11
 go_wp2_with (fail)
 obtain ⟨n1, n2, n3, n4, n5⟩ := four_new w (Obj.cells #[Value.int IntKind.i64 a0, Value.int IntKind.i64 a1, Value.int IntKind.i64 a2, Value.int IntKind.u64 a3, Value.int IntKind.u64 a4, Value.int IntKind.u64 a5] 24) (Obj.cells #[Value.int IntKind.u64 b0, Value.int IntKind.u64 e0, Value.slice A0 hs0.length c0] 34) (Obj.cells #[Value.int IntKind.u64 b1, Value.int IntKind.u64 e1, Value.slice A1 hs1.length c1] 34) (Obj.cells #[Value.int IntKind.u64 b2, Value.int IntKind.u64 e2, Value.slice A2 hs2.length c2] 34)
 have B1 := Aside0.mk n1
 have B2 := Aside0.mk n2
 have B3 := Aside0.mk n3
 have B4 := Aside0.mk n4
 have HB := Aside0.mk n5
 clear n1 n2 n3 n4 n5
 generalize (((w.alloc (Obj.cells #[Value.int IntKind.i64 a0, Value.int IntKind.i64 a1, Value.int IntKind.i64 a2, Value.int IntKind.u64 a3, Value.int IntKind.u64 a4, Value.int IntKind.u64 a5] 24)).alloc (Obj.cells #[Value.int IntKind.u64 b0, Value.int IntKind.u64 e0, Value.slice A0 hs0.length c0] 34)).alloc (Obj.cells #[Value.int IntKind.u64 b1, Value.int IntKind.u64 e1, Value.slice A1 hs1.length c1] 34)).alloc (Obj.cells #[Value.int IntKind.u64 b2, Value.int IntKind.u64 e2, Value.slice A2 hs2.length c2] 34) = W0 at B1 B2 B3 B4 HB ⊢
 obtain ⟨t0, t1, t2, t3, t4, t5⟩ := toy_cells B1.out
 obtain ⟨s0_0, s0_1, s0_2⟩ := rng_cells B2.out
 obtain ⟨s1_0, s1_1, s1_2⟩ := rng_cells B3.out
 obtain ⟨s2_0, s2_1, s2_2⟩ := rng_cells B4.out
 go_wp2_with (fail)
 rcases w1_ with _ | _
 ·refine (laws_zzFits7.calls k b0 e0 A0 c0 hs0 false _ (Kd.C_below HR0.out HB.out) HC0.out H1_.out).mono ?_
  rintro ex W1 ⟨rfl, hb⟩
  have HB' := Aside0.mk (below_step HB.out hb)
  clear HB hb
  dsimp only
  go_wp2_with (fail)
  go_ret
  exact ⟨rfl, HB'.out⟩
 refine (laws_zzFits7.calls k b0 e0 A0 c0 hs0 true _ (Kd.C_below HR0.out HB.out) HC0.out H1_.out).mono ?_
 rintro ex W1 ⟨rfl, hb⟩
 have HB' := Aside0.mk (below_step HB.out hb)
 replace B1 := Aside0.mk (blk_below B1.out hb)
 replace B2 := Aside0.mk (blk_below B2.out hb)
 replace B3 := Aside0.mk (blk_below B3.out hb)
 replace B4 := Aside0.mk (blk_below B4.out hb)
 clear HB hb t0 t1 t2 t3 t4 t5 s0_0 s0_1 s0_2 s1_0 s1_1 s1_2 s2_0 s2_1 s2_2
 have HB := HB'
 clear HB'
 obtain ⟨t0, t1, t2, t3, t4, t5⟩ := toy_cells B1.out
 obtain ⟨s0_0, s0_1, s0_2⟩ := rng_cells B2.out
 obtain ⟨s1_0, s1_1, s1_2⟩ := rng_cells B3.out
 obtain ⟨s2_0, s2_1, s2_2⟩ := rng_cells B4.out
 dsimp only
 go_wp2_with (fail)
 obtain ⟨w2_, h2, hx⟩ := HX_.out (by trivial)
 clear HX_
 have H2_ := Aside0.mk h2
 have HX_ := Aside0.mk hx
 clear h2 hx
 rcases w2_ with _ | _
 ·refine (laws_zzFits7.calls k b1 e1 A1 c1 hs1 false _ (Kd.C_below HR1.out HB.out) HC1.out H2_.out).mono ?_
  rintro ex W2 ⟨rfl, hb⟩
  have HB' := Aside0.mk (below_step HB.out hb)
  clear HB hb
  dsimp only
  go_wp2_with (fail)
  go_ret
  exact ⟨rfl, HB'.out⟩
 refine (laws_zzFits7.calls k b1 e1 A1 c1 hs1 true _ (Kd.C_below HR1.out HB.out) HC1.out H2_.out).mono ?_
 rintro ex W2 ⟨rfl, hb⟩
 have HB' := Aside0.mk (below_step HB.out hb)
 replace B1 := Aside0.mk (blk_below B1.out hb)
 replace B2 := Aside0.mk (blk_below B2.out hb)
 replace B3 := Aside0.mk (blk_below B3.out hb)
 replace B4 := Aside0.mk (blk_below B4.out hb)
 clear HB hb t0 t1 t2 t3 t4 t5 s0_0 s0_1 s0_2 s1_0 s1_1 s1_2 s2_0 s2_1 s2_2
 have HB := HB'
 clear HB'
 obtain ⟨t0, t1, t2, t3, t4, t5⟩ := toy_cells B1.out
 obtain ⟨s0_0, s0_1, s0_2⟩ := rng_cells B2.out
 obtain ⟨s1_0, s1_1, s1_2⟩ := rng_cells B3.out
 obtain ⟨s2_0, s2_1, s2_2⟩ := rng_cells B4.out
 dsimp only
 go_wp2_with (fail)
 obtain ⟨w3_, h3, hx⟩ := HX_.out (by trivial)
 clear HX_
 have H3_ := Aside0.mk h3
 have HX_ := Aside0.mk hx
 clear h3 hx
 rcases w3_ with _ | _
 ·refine (laws_zzFits7.calls k b2 e2 A2 c2 hs2 false _ (Kd.C_below HR2.out HB.out) HC2.out H3_.out).mono ?_
  rintro ex W3 ⟨rfl, hb⟩
  have HB' := Aside0.mk (below_step HB.out hb)
  clear HB hb
  dsimp only
  go_wp2_with (fail)
  go_ret
  exact ⟨rfl, HB'.out⟩
 refine (laws_zzFits7.calls k b2 e2 A2 c2 hs2 true _ (Kd.C_below HR2.out HB.out) HC2.out H3_.out).mono ?_
 rintro ex W3 ⟨rfl, hb⟩
 have HB' := Aside0.mk (below_step HB.out hb)
 replace B1 := Aside0.mk (blk_below B1.out hb)
 replace B2 := Aside0.mk (blk_below B2.out hb)
 replace B3 := Aside0.mk (blk_below B3.out hb)
 replace B4 := Aside0.mk (blk_below B4.out hb)
 clear HB hb t0 t1 t2 t3 t4 t5 s0_0 s0_1 s0_2 s1_0 s1_1 s1_2 s2_0 s2_1 s2_2
 have HB := HB'
 clear HB'
 obtain ⟨t0, t1, t2, t3, t4, t5⟩ := toy_cells B1.out
 obtain ⟨s0_0, s0_1, s0_2⟩ := rng_cells B2.out
 obtain ⟨s1_0, s1_1, s1_2⟩ := rng_cells B3.out
 obtain ⟨s2_0, s2_1, s2_2⟩ := rng_cells B4.out
 dsimp only
 rcases HX_.out (by trivial) with h4 | ⟨h4, h5 | ⟨h5, w4_, h6, hx⟩⟩
 ·have z0 : (e0 == 0) = true := beq_iff_eq.mpr h4
  clear h4
  go_wp2_with (fail)
  go_ret
  exact ⟨rfl, HB.out⟩
 ·have z0 : (e0 == 0) = false := beq_eq_false_iff_ne.mpr h4
  have z1 : (e1 == e0) = true := beq_iff_eq.mpr h5
  clear h4 h5
  go_wp2_with (fail)
  go_ret
  exact ⟨rfl, HB.out⟩
 have z0 : (e0 == 0) = false := beq_eq_false_iff_ne.mpr h4
 have z1 : (e1 == e0) = false := beq_eq_false_iff_ne.mpr h5
 clear HX_
 have H4_ := Aside0.mk h4
 have H5_ := Aside0.mk h5
 have H6_ := Aside0.mk h6
 have HX_ := Aside0.mk hx
 clear h4 h5 h6 hx
 go_wp2_with (fail)
 rcases w4_ with _ | _
 ·have ho := below_alloc HB.out (Obj.cells #[Value.int IntKind.u64 b0, Value.int IntKind.u64 e0, Value.slice A0 hs0.length c0, Value.int IntKind.u64 b1, Value.int IntKind.u64 e1, Value.slice A1 hs1.length c1, Value.int IntKind.u64 b2, Value.int IntKind.u64 e2, Value.slice A2 hs2.length c2] 34)
  have hn := blk_new W3 (Obj.cells #[Value.int IntKind.u64 b0, Value.int IntKind.u64 e0, Value.slice A0 hs0.length c0, Value.int IntKind.u64 b1, Value.int IntKind.u64 e1, Value.slice A1 hs1.length c1, Value.int IntKind.u64 b2, Value.int IntKind.u64 e2, Value.slice A2 hs2.length c2] 34)
  have hba := below_alloc (Below.refl W3.heap.size W3) (Obj.cells #[Value.int IntKind.u64 b0, Value.int IntKind.u64 e0, Value.slice A0 hs0.length c0, Value.int IntKind.u64 b1, Value.int IntKind.u64 e1, Value.slice A1 hs1.length c1, Value.int IntKind.u64 b2, Value.int IntKind.u64 e2, Value.slice A2 hs2.length c2] 34)
  refine (laws_growthNext.calls k (some ⟨W3.heap.size, 0, none⟩) 3 [⟨b0, e0, hs0⟩, ⟨b1, e1, hs1⟩, ⟨b2, e2, hs2⟩] false _ (row34_3 hn (Kd.C_below HR0.out ho) HC0.out (Kd.C_below HR1.out ho) HC1.out (Kd.C_below HR2.out ho) HC2.out) (Nat.le_refl _) H6_.out).mono ?_
  rintro ex W4 ⟨rfl, hb9⟩
  have hb := below_step hba hb9
  have HB' := Aside0.mk (below_step HB.out hb)
  replace B1 := Aside0.mk (blk_below B1.out hb)
  replace B2 := Aside0.mk (blk_below B2.out hb)
  replace B3 := Aside0.mk (blk_below B3.out hb)
  replace B4 := Aside0.mk (blk_below B4.out hb)
  clear HB hb hb9 hba ho hn t0 t1 t2 t3 t4 t5 s0_0 s0_1 s0_2 s1_0 s1_1 s1_2 s2_0 s2_1 s2_2
  have HB := HB'
  clear HB'
  dsimp only
  go_wp2_with (fail)
  go_ret
  exact ⟨rfl, HB.out⟩
 have ho := below_alloc HB.out (Obj.cells #[Value.int IntKind.u64 b0, Value.int IntKind.u64 e0, Value.slice A0 hs0.length c0, Value.int IntKind.u64 b1, Value.int IntKind.u64 e1, Value.slice A1 hs1.length c1, Value.int IntKind.u64 b2, Value.int IntKind.u64 e2, Value.slice A2 hs2.length c2] 34)
 have hn := blk_new W3 (Obj.cells #[Value.int IntKind.u64 b0, Value.int IntKind.u64 e0, Value.slice A0 hs0.length c0, Value.int IntKind.u64 b1, Value.int IntKind.u64 e1, Value.slice A1 hs1.length c1, Value.int IntKind.u64 b2, Value.int IntKind.u64 e2, Value.slice A2 hs2.length c2] 34)
 have hba := below_alloc (Below.refl W3.heap.size W3) (Obj.cells #[Value.int IntKind.u64 b0, Value.int IntKind.u64 e0, Value.slice A0 hs0.length c0, Value.int IntKind.u64 b1, Value.int IntKind.u64 e1, Value.slice A1 hs1.length c1, Value.int IntKind.u64 b2, Value.int IntKind.u64 e2, Value.slice A2 hs2.length c2] 34)
 refine (laws_growthNext.calls k (some ⟨W3.heap.size, 0, none⟩) 3 [⟨b0, e0, hs0⟩, ⟨b1, e1, hs1⟩, ⟨b2, e2, hs2⟩] true _ (row34_3 hn (Kd.C_below HR0.out ho) HC0.out (Kd.C_below HR1.out ho) HC1.out (Kd.C_below HR2.out ho) HC2.out) (Nat.le_refl _) H6_.out).mono ?_
 rintro ex W4 ⟨rfl, hb9⟩
 have hb := below_step hba hb9
 have HB' := Aside0.mk (below_step HB.out hb)
 replace B1 := Aside0.mk (blk_below B1.out hb)
 replace B2 := Aside0.mk (blk_below B2.out hb)
 replace B3 := Aside0.mk (blk_below B3.out hb)
 replace B4 := Aside0.mk (blk_below B4.out hb)
 clear HB hb hb9 hba ho hn t0 t1 t2 t3 t4 t5 s0_0 s0_1 s0_2 s1_0 s1_1 s1_2 s2_0 s2_1 s2_2
 have HB := HB'
 clear HB'
 obtain ⟨t0, t1, t2, t3, t4, t5⟩ := toy_cells B1.out
 obtain ⟨s0_0, s0_1, s0_2⟩ := rng_cells B2.out
 obtain ⟨s1_0, s1_1, s1_2⟩ := rng_cells B3.out
 obtain ⟨s2_0, s2_1, s2_2⟩ := rng_cells B4.out
 dsimp only
 go_wp2_with (fail)
 obtain ⟨y2, y3, z2, z3, m1, m2, m3, m4, m5, m6, m7⟩ := HX_.out (by trivial)
 clear HX_
 have M1_ := Aside0.mk m1
 have M2_ := Aside0.mk m2
 have M3_ := Aside0.mk m3
 have M4_ := Aside0.mk m4
 have M5_ := Aside0.mk m5
 have M6_ := Aside0.mk m6
 have M7_ := Aside0.mk m7
 clear m1 m2 m3 m4 m5 m6 m7
 refine (impl_AppendRange.calls k a0 a1 a2 a3 a4 a5 b0 e0 A0 c0 hs0 b1 e1 A1 c1 hs1 0 e1 y2 y3 true _ (HG.out.below HB.out) (Kd.C_below HR0.out HB.out) HC0.out (Kd.C_below HR1.out HB.out) HC1.out M1_.out).mono ?_
 rintro ex W5 ⟨v0, v1, rfl, hS, _, hb⟩
 obtain ⟨D1, d1, rfl⟩ := Kd.S_slice hS
 have HB' := Aside0.mk (below_step HB.out hb)
 replace B1 := Aside0.mk (blk_below B1.out hb)
 replace B2 := Aside0.mk (blk_below B2.out hb)
 replace B3 := Aside0.mk (blk_below B3.out hb)
 replace B4 := Aside0.mk (blk_below B4.out hb)
 have RY := Aside0.mk (Kd.R_reads' (Kd.S_R hS)).2
 clear HB hb hS t0 t1 t2 t3 t4 t5 s0_0 s0_1 s0_2 s1_0 s1_1 s1_2 s2_0 s2_1 s2_2
 have HB := HB'
 clear HB'
 obtain ⟨t0, t1, t2, t3, t4, t5⟩ := toy_cellsA B1.out
 obtain ⟨s0_0, s0_1, s0_2⟩ := rng_cellsA B2.out
 obtain ⟨s1_0, s1_1, s1_2⟩ := rng_cellsA B3.out
 obtain ⟨s2_0, s2_1, s2_2⟩ := rng_cellsA B4.out
 dsimp only
 go_wp2_with (fail)
 have hbp := below_alloc (Below.refl W5.heap.size W5) (Obj.cells #[Value.int IntKind.u64 0, Value.int IntKind.u64 e1, Value.slice D1 y2.length d1] 34)
 have BY := Aside0.mk (blk_new W5 (Obj.cells #[Value.int IntKind.u64 0, Value.int IntKind.u64 e1, Value.slice D1 y2.length d1] 34))
 replace RY := Aside0.mk (And.intro RY.out.1 (Kd.C_below RY.out.2 hbp))
 replace HB := Aside0.mk (below_step HB.out hbp)
 replace B1 := Aside0.mk (blk_below B1.out hbp)
 replace B2 := Aside0.mk (blk_below B2.out hbp)
 replace B3 := Aside0.mk (blk_below B3.out hbp)
 replace B4 := Aside0.mk (blk_below B4.out hbp)
 generalize W5.alloc (Obj.cells #[Value.int IntKind.u64 0, Value.int IntKind.u64 e1, Value.slice D1 y2.length d1] 34) = W6 at RY BY B1 B2 B3 B4 HB ⊢
 generalize W5.heap.size = gy at BY ⊢
 clear hbp t0 t1 t2 t3 t4 t5 s0_0 s0_1 s0_2 s1_0 s1_1 s1_2 s2_0 s2_1 s2_2
 refine (impl_AppendRange.calls k a0 a1 a2 a3 a4 a5 b1 e1 A1 c1 hs1 b2 e2 A2 c2 hs2 b1 e2 z2 z3 true _ (HG.out.below HB.out) (Kd.C_below HR1.out HB.out) HC1.out (Kd.C_below HR2.out HB.out) HC2.out M2_.out).mono ?_
 rintro ex W7 ⟨v2, v3, rfl, hS, _, hb⟩
 obtain ⟨D2, d2, rfl⟩ := Kd.S_slice hS
 replace RY := Aside0.mk (And.intro RY.out.1 (Kd.C_below RY.out.2 hb))
 replace BY := Aside0.mk (blk_below BY.out hb)
 have HB' := Aside0.mk (below_step HB.out hb)
 replace B1 := Aside0.mk (blk_below B1.out hb)
 replace B2 := Aside0.mk (blk_below B2.out hb)
 replace B3 := Aside0.mk (blk_below B3.out hb)
 replace B4 := Aside0.mk (blk_below B4.out hb)
 have RZ := Aside0.mk (Kd.R_reads' (Kd.S_R hS)).2
 clear HB hb hS
 have HB := HB'
 clear HB'
 obtain ⟨t0, t1, t2, t3, t4, t5⟩ := toy_cellsA B1.out
 obtain ⟨s0_0, s0_1, s0_2⟩ := rng_cellsA B2.out
 obtain ⟨s1_0, s1_1, s1_2⟩ := rng_cellsA B3.out
 obtain ⟨s2_0, s2_1, s2_2⟩ := rng_cellsA B4.out
 obtain ⟨y_0, y_1, y_2⟩ := rng_cellsA BY.out
 dsimp only
 go_wp2_with (fail)
 have hbp := below_alloc (Below.refl W7.heap.size W7) (Obj.cells #[Value.int IntKind.u64 b1, Value.int IntKind.u64 e2, Value.slice D2 z2.length d2] 34)
 have BZ := Aside0.mk (blk_new W7 (Obj.cells #[Value.int IntKind.u64 b1, Value.int IntKind.u64 e2, Value.slice D2 z2.length d2] 34))
 replace RY := Aside0.mk (And.intro RY.out.1 (Kd.C_below RY.out.2 hbp))
 replace RZ := Aside0.mk (And.intro RZ.out.1 (Kd.C_below RZ.out.2 hbp))
 replace BY := Aside0.mk (blk_below BY.out hbp)
 replace HB := Aside0.mk (below_step HB.out hbp)
 replace B1 := Aside0.mk (blk_below B1.out hbp)
 replace B2 := Aside0.mk (blk_below B2.out hbp)
 replace B3 := Aside0.mk (blk_below B3.out hbp)
 replace B4 := Aside0.mk (blk_below B4.out hbp)
 generalize W7.alloc (Obj.cells #[Value.int IntKind.u64 b1, Value.int IntKind.u64 e2, Value.slice D2 z2.length d2] 34) = W8 at RY RZ BY BZ B1 B2 B3 B4 HB ⊢
 generalize W7.heap.size = gz at BZ ⊢
 clear hbp y_0 y_1 y_2 t0 t1 t2 t3 t4 t5 s0_0 s0_1 s0_2 s1_0 s1_1 s1_2 s2_0 s2_1 s2_2
 refine (laws_FnConsistencyOfRanges.true_calls k a0 a1 a2 a3 a4 a5 b0 e0 A0 c0 hs0 b1 e1 A1 c1 hs1 _ (HG.out.below HB.out) (Kd.C_below HR0.out HB.out) HC0.out (Kd.C_below HR1.out HB.out) HC1.out M3_.out).mono ?_
 rintro ex W9 ⟨rfl, hb⟩
 replace RY := Aside0.mk (And.intro RY.out.1 (Kd.C_below RY.out.2 hb))
 replace RZ := Aside0.mk (And.intro RZ.out.1 (Kd.C_below RZ.out.2 hb))
 replace BY := Aside0.mk (blk_below BY.out hb)
 replace BZ := Aside0.mk (blk_below BZ.out hb)
 have HB' := Aside0.mk (below_step HB.out hb)
 replace B1 := Aside0.mk (blk_below B1.out hb)
 replace B2 := Aside0.mk (blk_below B2.out hb)
 replace B3 := Aside0.mk (blk_below B3.out hb)
 replace B4 := Aside0.mk (blk_below B4.out hb)
 clear HB hb
 have HB := HB'
 clear HB'
 obtain ⟨t0, t1, t2, t3, t4, t5⟩ := toy_cells B1.out
 obtain ⟨s0_0, s0_1, s0_2⟩ := rng_cells B2.out
 obtain ⟨s1_0, s1_1, s1_2⟩ := rng_cells B3.out
 obtain ⟨s2_0, s2_1, s2_2⟩ := rng_cells B4.out
 obtain ⟨y_0, y_1, y_2⟩ := rng_cells BY.out
 obtain ⟨z_0, z_1, z_2⟩ := rng_cells BZ.out
 dsimp only
 go_wp2_with (fail)
 refine (laws_FnConsistencyOfRanges.true_calls k a0 a1 a2 a3 a4 a5 0 e1 D1 d1 y2 b2 e2 A2 c2 hs2 _ (HG.out.below HB.out) RY.out.2 RY.out.1 (Kd.C_below HR2.out HB.out) HC2.out M4_.out).mono ?_
 rintro ex W10 ⟨rfl, hb⟩
 replace RY := Aside0.mk (And.intro RY.out.1 (Kd.C_below RY.out.2 hb))
 replace RZ := Aside0.mk (And.intro RZ.out.1 (Kd.C_below RZ.out.2 hb))
 replace BY := Aside0.mk (blk_below BY.out hb)
 replace BZ := Aside0.mk (blk_below BZ.out hb)
 have HB' := Aside0.mk (below_step HB.out hb)
 replace B1 := Aside0.mk (blk_below B1.out hb)
 replace B2 := Aside0.mk (blk_below B2.out hb)
 replace B3 := Aside0.mk (blk_below B3.out hb)
 replace B4 := Aside0.mk (blk_below B4.out hb)
 clear HB hb t0 t1 t2 t3 t4 t5 s0_0 s0_1 s0_2 s1_0 s1_1 s1_2 s2_0 s2_1 s2_2 y_0 y_1 y_2 z_0 z_1 z_2
 have HB := HB'
 clear HB'
 obtain ⟨t0, t1, t2, t3, t4, t5⟩ := toy_cells B1.out
 obtain ⟨s0_0, s0_1, s0_2⟩ := rng_cells B2.out
 obtain ⟨s1_0, s1_1, s1_2⟩ := rng_cells B3.out
 obtain ⟨s2_0, s2_1, s2_2⟩ := rng_cells B4.out
 obtain ⟨y_0, y_1, y_2⟩ := rng_cells BY.out
 obtain ⟨z_0, z_1, z_2⟩ := rng_cells BZ.out
 dsimp only
 go_wp2_with (fail)
 refine (laws_FnConsistencyOfRanges.true_calls k a0 a1 a2 a3 a4 a5 b0 e0 A0 c0 hs0 b1 e2 D2 d2 z2 _ (HG.out.below HB.out) (Kd.C_below HR0.out HB.out) HC0.out RZ.out.2 RZ.out.1 M5_.out).mono ?_
 rintro ex W11 ⟨rfl, hb⟩
 replace RY := Aside0.mk (And.intro RY.out.1 (Kd.C_below RY.out.2 hb))
 replace RZ := Aside0.mk (And.intro RZ.out.1 (Kd.C_below RZ.out.2 hb))
 replace BY := Aside0.mk (blk_below BY.out hb)
 replace BZ := Aside0.mk (blk_below BZ.out hb)
 have HB' := Aside0.mk (below_step HB.out hb)
 replace B1 := Aside0.mk (blk_below B1.out hb)
 replace B2 := Aside0.mk (blk_below B2.out hb)
 replace B3 := Aside0.mk (blk_below B3.out hb)
 replace B4 := Aside0.mk (blk_below B4.out hb)
 clear HB hb t0 t1 t2 t3 t4 t5 s0_0 s0_1 s0_2 s1_0 s1_1 s1_2 s2_0 s2_1 s2_2 y_0 y_1 y_2 z_0 z_1 z_2
 have HB := HB'
 clear HB'
 obtain ⟨t0, t1, t2, t3, t4, t5⟩ := toy_cells B1.out
 obtain ⟨s0_0, s0_1, s0_2⟩ := rng_cells B2.out
 obtain ⟨s1_0, s1_1, s1_2⟩ := rng_cells B3.out
 obtain ⟨s2_0, s2_1, s2_2⟩ := rng_cells B4.out
 obtain ⟨y_0, y_1, y_2⟩ := rng_cells BY.out
 obtain ⟨z_0, z_1, z_2⟩ := rng_cells BZ.out
 dsimp only
 go_wp2_with (fail)
 refine (spec_ProperRange.calls k 0 e1 D1 d1 y2 true _ RY.out.2 RY.out.1 M6_.out).mono ?_
 rintro ex W12 ⟨rfl, hb⟩
 replace RY := Aside0.mk (And.intro RY.out.1 (Kd.C_below RY.out.2 hb))
 replace RZ := Aside0.mk (And.intro RZ.out.1 (Kd.C_below RZ.out.2 hb))
 replace BY := Aside0.mk (blk_below BY.out hb)
 replace BZ := Aside0.mk (blk_below BZ.out hb)
 have HB' := Aside0.mk (below_step HB.out hb)
 replace B1 := Aside0.mk (blk_below B1.out hb)
 replace B2 := Aside0.mk (blk_below B2.out hb)
 replace B3 := Aside0.mk (blk_below B3.out hb)
 replace B4 := Aside0.mk (blk_below B4.out hb)
 clear HB hb t0 t1 t2 t3 t4 t5 s0_0 s0_1 s0_2 s1_0 s1_1 s1_2 s2_0 s2_1 s2_2 y_0 y_1 y_2 z_0 z_1 z_2
 have HB := HB'
 clear HB'
 obtain ⟨t0, t1, t2, t3, t4, t5⟩ := toy_cells B1.out
 obtain ⟨s0_0, s0_1, s0_2⟩ := rng_cells B2.out
 obtain ⟨s1_0, s1_1, s1_2⟩ := rng_cells B3.out
 obtain ⟨s2_0, s2_1, s2_2⟩ := rng_cells B4.out
 obtain ⟨y_0, y_1, y_2⟩ := rng_cells BY.out
 obtain ⟨z_0, z_1, z_2⟩ := rng_cells BZ.out
 dsimp only
 go_wp2_with (fail)
 refine (spec_ProperRange.calls k b1 e2 D2 d2 z2 true _ RZ.out.2 RZ.out.1 M7_.out).mono ?_
 rintro ex W13 ⟨rfl, hb⟩
 replace RY := Aside0.mk (And.intro RY.out.1 (Kd.C_below RY.out.2 hb))
 replace RZ := Aside0.mk (And.intro RZ.out.1 (Kd.C_below RZ.out.2 hb))
 replace BY := Aside0.mk (blk_below BY.out hb)
 replace BZ := Aside0.mk (blk_below BZ.out hb)
 have HB' := Aside0.mk (below_step HB.out hb)
 replace B1 := Aside0.mk (blk_below B1.out hb)
 replace B2 := Aside0.mk (blk_below B2.out hb)
 replace B3 := Aside0.mk (blk_below B3.out hb)
 replace B4 := Aside0.mk (blk_below B4.out hb)
 clear HB hb t0 t1 t2 t3 t4 t5 s0_0 s0_1 s0_2 s1_0 s1_1 s1_2 s2_0 s2_1 s2_2 y_0 y_1 y_2 z_0 z_1 z_2
 have HB := HB'
 clear HB'
 obtain ⟨t0, t1, t2, t3, t4, t5⟩ := toy_cells B1.out
 obtain ⟨s0_0, s0_1, s0_2⟩ := rng_cells B2.out
 obtain ⟨s1_0, s1_1, s1_2⟩ := rng_cells B3.out
 obtain ⟨s2_0, s2_1, s2_2⟩ := rng_cells B4.out
 obtain ⟨y_0, y_1, y_2⟩ := rng_cells BY.out
 obtain ⟨z_0, z_1, z_2⟩ := rng_cells BZ.out
 dsimp only
 go_wp2_with (fail)
 go_ret
 exact ⟨rfl, HB.out⟩
theorem laws_FnThreeSizes.calls (k : Nat) (a0 a1 a2 a3 a4 a5 b0 e0 : Int) (A0 : Option Addr) (c0 : Nat) (hs0 : List (List Int)) (b1 e1 : Int) (A1 : Option Addr) (c1 : Nat) (hs1 : List (List Int)) (b2 e2 : Int) (A2 : Option Addr) (c2 : Nat) (hs2 : List (List Int)) (r : Bool) (w : World) (hG : Glob w) (hr0 : Kd.C (Kd.slice 5 (Kd.int .u8)) w A0 hs0.length hs0) (hc0 : hs0.length ≤ c0) (hr1 : Kd.C (Kd.slice 5 (Kd.int .u8)) w A1 hs1.length hs1) (hc1 : hs1.length ≤ c1) (hr2 : Kd.C (Kd.slice 5 (Kd.int .u8)) w A2 hs2.length hs2) (hc2 : hs2.length ≤ c2) (h : true = r ∧ ThreePl k a0 a1 a2 a3 a4 a5 b0 e0 hs0 b1 e1 hs1 b2 e2 hs2) :
 Calls Tryd.prog 11 #[.agg #[.int .i64 a0, .int .i64 a1, .int .i64 a2, .int .u64 a3, .int .u64 a4, .int .u64 a5], .agg #[.int .u64 b0, .int .u64 e0, .slice A0 hs0.length c0], .agg #[.int .u64 b1, .int .u64 e1, .slice A1 hs1.length c1], .agg #[.int .u64 b2, .int .u64 e2, .slice A2 hs2.length c2]] w fun e w' => e = .returned (.bool r) ∧ Below w.heap.size w w' := by
 obtain ⟨rfl, h⟩ := h
 exact threeAll k a0 a1 a2 a3 a4 a5 b0 e0 A0 c0 hs0 b1 e1 A1 c1 hs1 b2 e2 A2 c2 hs2 w hG hr0 hc0 hr1 hc1 hr2 hc2 h
end Go.Proofs.YtielnphmcaecdaaDoor.PAll
namespace Go.Proofs.YtielnphmcaecdaaDoor.Mth
theorem mNds_last : ∀ (h l b c : Nat), c % 2 = 0 → b ≤ c * 2 ^ h → Nds l b ((c + 1) * 2 ^ h) = Nds l b (c * 2 ^ h) ++ [(l + h, c)]
 | 0, l, b, c, hc, hb => by
  rw [Nat.pow_zero, Nat.mul_one] at hb
  rw [Nat.pow_zero, Nat.mul_one, Nat.mul_one, Nds_some (show b < c + 1 by omega), if_pos (show (c + 1) % 2 = 1 by omega), Nat.add_sub_cancel, show (c + 1) / 2 = c / 2 by omega]
  by_cases h : b < c
  ·rw [Nds_some h, if_neg (show ¬ c % 2 = 1 by omega), List.append_nil]; rfl
  ·rw [Nds_empty (show c ≤ b by omega), Nds_empty (show c / 2 ≤ (b + 1) / 2 by omega), if_neg (show ¬ b % 2 = 1 by omega)]; rfl
 | h + 1, l, b, c, hc, hb => by
  have e1 : (c + 1) * 2 ^ (h + 1) = 2 * ((c + 1) * 2 ^ h) := by rw [pow_up, Nat.mul_left_comm]
  have e2 : c * 2 ^ (h + 1) = 2 * (c * 2 ^ h) := by rw [pow_up, Nat.mul_left_comm]
  have e3 : (c + 1) * 2 ^ h = c * 2 ^ h + 2 ^ h := Nat.succ_mul _ _
  have hp := Nat.two_pow_pos h
  rw [e2] at hb
  have ih := mNds_last h (l + 1) ((b + 1) / 2) c hc (by omega)
  rw [e1, e2]
  generalize (c + 1) * 2 ^ h = Y at *
  generalize c * 2 ^ h = X at *
  rw [Nds_some (show b < 2 * Y by omega), if_neg (show ¬ 2 * Y % 2 = 1 by omega), List.append_nil, Nat.mul_div_cancel_left _ (by decide), ih]
  by_cases h2 : b < 2 * X
  ·rw [Nds_some h2, if_neg (show ¬ 2 * X % 2 = 1 by omega), List.append_nil, Nat.mul_div_cancel_left _ (by decide), List.append_assoc, show l + 1 + h = l + (h + 1) by omega]
  ·rw [Nds_empty (show 2 * X ≤ b by omega), Nds_empty (show X ≤ (b + 1) / 2 by omega), if_neg (show ¬ b % 2 = 1 by omega), show l + 1 + h = l + (h + 1) by omega]; rfl
theorem mlev_odd : ∀ (h c e : Nat), c % 2 = 1 → (c + 1) * 2 ^ h ≤ e → lev (c * 2 ^ h) e = h
 | 0, c, e, hc, he => by rw [Nat.pow_zero, Nat.mul_one, lev_no (.inl hc)]
 | h + 1, c, e, hc, he => by
  have e1 : (c + 1) * 2 ^ (h + 1) = 2 * ((c + 1) * 2 ^ h) := by rw [pow_up, Nat.mul_left_comm]
  have e2 : c * 2 ^ (h + 1) = 2 * (c * 2 ^ h) := by rw [pow_up, Nat.mul_left_comm]
  have e3 : (c + 1) * 2 ^ h = c * 2 ^ h + 2 ^ h := Nat.succ_mul _ _
  have hp := Nat.two_pow_pos h
  rw [e1] at he
  have ih := mlev_odd h c (e / 2) hc (by omega)
  rw [e2]
  generalize (c + 1) * 2 ^ h = Y at *
  generalize c * 2 ^ h = X at *
  rw [lev_up (by omega) (by omega), Nat.mul_div_cancel_left _ (by decide), ih]
theorem mNds_first {h c e : Nat} (hc : c % 2 = 1) (he : (c + 1) * 2 ^ h ≤ e) : Nds 0 (c * 2 ^ h) e = (h, c) :: Nds 0 ((c + 1) * 2 ^ h) e := by
 have hp := Nat.two_pow_pos h
 have e3 : (c + 1) * 2 ^ h = c * 2 ^ h + 2 ^ h := Nat.succ_mul _ _
 rw [Nds_step 0 _ _ (by omega), mlev_odd h c e hc he, Nat.zero_add, Nat.mul_div_cancel _ hp, e3]
theorem mlev_parts {b e : Nat} (h : b < e) : ∃ c, b = c * 2 ^ lev b e ∧ b / 2 ^ lev b e = c ∧ (c + 1) * 2 ^ lev b e = b + 2 ^ lev b e ∧ b + 2 ^ lev b e ≤ e ∧ (c % 2 = 0 → e < (c + 2) * 2 ^ lev b e) := by
 obtain ⟨h1, h2, h3⟩ := lev_spec b e h
 have hp := Nat.two_pow_pos (lev b e)
 generalize lev b e = κ at *
 have hd := Nat.div_add_mod b (2 ^ κ)
 rw [h1, Nat.add_zero, Nat.mul_comm] at hd
 refine ⟨b / 2 ^ κ, hd.symm, rfl, by rw [Nat.succ_mul, hd], h2, fun hc => ?_⟩
 obtain ⟨j, hj⟩ : ∃ j, b / 2 ^ κ = 2 * j := ⟨b / 2 ^ κ / 2, by omega⟩
 rw [hj] at hd ⊢
 have e1 : 2 * j * 2 ^ κ = 2 ^ (κ + 1) * j := by rw [Nat.pow_succ, Nat.mul_assoc, Nat.mul_comm (2 ^ κ) 2, Nat.mul_assoc, Nat.mul_comm j]
 have h4 := h3 (by rw [← hd, e1]; exact Nat.mul_mod_right _ _)
 rw [Nat.add_mul, hd, show 2 * 2 ^ κ = 2 ^ (κ + 1) from (pow_up κ).symm]
 exact h4
theorem mNds_range : ∀ (d b e : Nat), e - b ≤ d → ∀ p ∈ Nds 0 b e, b ≤ p.2 * 2 ^ p.1 ∧ (p.2 + 1) * 2 ^ p.1 ≤ e := by
 intro d
 induction d with
 | zero => intro b e h p hp; rw [Nds_empty (by omega)] at hp; cases hp
 | succ d ih =>
  intro b e h p hp
  by_cases hb : b < e
  ·obtain ⟨c, h1, h2, h3, h4, _⟩ := mlev_parts hb
   have hpp := Nat.two_pow_pos (lev b e)
   rw [Nds_step 0 b e hb, Nat.zero_add, h2] at hp
   rcases List.mem_cons.mp hp with rfl | hp
   ·exact ⟨Nat.le_of_eq h1, by rw [h3]; exact h4⟩
   ·have := ih _ _ (by omega) p hp
    exact ⟨by omega, this.2⟩
  ·rw [Nds_empty (by omega)] at hp; cases hp
end Go.Proofs.YtielnphmcaecdaaDoor.Mth
namespace Go.Proofs.YtielnphmcaecdaaDoor.Mth
open Go.RowKit Go.Proofs.YtielnphmcaecdaaDoor.Num Go.Proofs.YtielnphmcaecdaaDoor.PAll Go.Proofs.YtielnphmcaecdaaDoorW.PrintWords Go.Proofs.YtielnphmcaecdaaDoorW.PrintLast Go.Proofs.YtielnphmcaecdaaDoorW.PrintMore
def vis (p : Nat × Nat) (x : List Int) : S51 := ⟨⟨(p.1 : Int), (p.2 : Int)⟩, x⟩
section path
variable (F : List Int → List Int → Option (List Int)) (b m e low D : Nat) (xs ys : List (List Int)) (gs : Nat → List Int)
def inR (t : Nat) : Prop := b ≤ m / 2 ^ (low + t) * 2 ^ (low + t) ∧ (m / 2 ^ (low + t) + 1) * 2 ^ (low + t) ≤ e
variable {F b m e low D xs ys gs}
theorem half_up (m j : Nat) : m / 2 ^ (j + 1) = m / 2 ^ j / 2 := by rw [Nat.pow_succ, Nat.div_div_eq_div_mul]
theorem len_at (h0 : (Nds 0 b m).length = xs.length) (h1 : (Nds 0 ((m / 2 ^ low + 1) * 2 ^ low) e).length = ys.length) (hm : m / 2 ^ low * 2 ^ low = m) : ∀ t, t ≤ D → (∀ j, j < D → inR b m e low (j + 1)) → (Nds 0 b (m / 2 ^ (low + t) * 2 ^ (low + t))).length + onesB m low t = xs.length ∧ (Nds 0 ((m / 2 ^ (low + t) + 1) * 2 ^ (low + t)) e).length + (t - onesB m low t) = ys.length
 | 0, _, _ => by
  rw [Nat.add_zero, hm]
  exact ⟨by rw [onesB]; omega, by rw [onesB]; omega⟩
 | t + 1, ht, hin => by
  obtain ⟨i1, i2⟩ := len_at h0 h1 hm t (by omega) hin
  obtain ⟨r1, r2⟩ := hin t (by omega)
  have hle := onesB_le m low t
  have e1 : low + (t + 1) = low + t + 1 := rfl
  rw [e1, half_up] at r1 r2 ⊢
  rw [onesB]
  generalize low + t = h at *
  have hp := pow_up h
  generalize m / 2 ^ h = I at *
  rcases Nat.mod_two_eq_zero_or_one I with hb | hb
  ·obtain ⟨q, rfl⟩ : ∃ q, I = 2 * q := ⟨I / 2, by omega⟩
   rw [hb]
   rw [show 2 * q / 2 = q by omega, hp] at r1 r2 ⊢
   have ee : q * (2 * 2 ^ h) = 2 * q * 2 ^ h := by rw [Nat.mul_left_comm, Nat.mul_assoc]
   have e2 : (q + 1) * (2 * 2 ^ h) = (2 * q + 1 + 1) * 2 ^ h := by rw [Nat.mul_left_comm, ← Nat.mul_assoc]; rfl
   rw [ee] at r1 ⊢
   rw [e2] at r2 ⊢
   rw [mNds_first (show (2 * q + 1) % 2 = 1 by omega) r2, List.length_cons] at i2
   exact ⟨by omega, by omega⟩
  ·obtain ⟨q, rfl⟩ : ∃ q, I = 2 * q + 1 := ⟨I / 2, by omega⟩
   rw [hb]
   rw [show (2 * q + 1) / 2 = q by omega, hp] at r1 r2 ⊢
   have ee : q * (2 * 2 ^ h) = 2 * q * 2 ^ h := by rw [Nat.mul_left_comm, Nat.mul_assoc]
   have e2 : (q + 1) * (2 * 2 ^ h) = (2 * q + 1 + 1) * 2 ^ h := by rw [Nat.mul_left_comm, ← Nat.mul_assoc]; rfl
   rw [ee] at r1 ⊢
   rw [e2] at r2 ⊢
   rw [mNds_last h 0 b (2 * q) (by omega) r1, List.length_append, List.length_singleton] at i1
   exact ⟨by omega, by omega⟩
end path
end Go.Proofs.YtielnphmcaecdaaDoor.Mth
