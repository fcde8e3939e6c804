-- Written by a program of this session (wip/tools)
import Derived.Test.YtielnphmcaecdaaDoorQRMTreeMem
import Derived.Test.YtielnphmcaecdaaDoorQRMExtTz
import Derived.Outline
import Derived.Deep.QuietTactic
import Derived.BigQuiet
import Derived.Deep.RegionWith
import Derived.Deep.RegionLaw
import Derived.Deep.RegionHeldLaw
import Derived.IntWalk
namespace Go.Proofs.YtielnphmcaecdaaDoor.PAll
open Go.RowKit Go.Proofs.YtielnphmcaecdaaDoorW.PrintWords Go.Proofs.YtielnphmcaecdaaDoorW.PrintLast Go.Proofs.YtielnphmcaecdaaDoorW.PrintMore
attribute [local go_sem] max2_int min2_int max_two min_two max_three min_three max_four min_four   -- for this text's walks alone
set_option linter.unusedVariables false
set_option linter.unusedSimpArgs false
mutual
def compact_RangeNodes.l0 : Nat → List (S99) → Int → Int → Int → Option ((List (S99)))
  | 0, _, _, _, _ => none
  | k + 1, x2, x7, x8, x9 => if x7 = 0 then (compact_RangeNodes.l1 k x2 x8 x9) else ((bits_TrailingZeros64.f x7).bind fun t157 => (if 0 ≤ (IntKind.u64.wrap (t157)) then ((compact_NewNodeID.f (IntKind.u64.wrap (t157)) (shr .u64 x9 (IntKind.u64.wrap (t157)))).bind fun bt158 => (if x2.length < 8796093022208 then (compact_RangeNodes.l0 k (x2 ++ [(⟨bt158.1, bt158.2⟩ : S99)]) (Go.bits .xor .u64 x7 (shl .u64 1 (IntKind.u64.wrap (t157)))) x8 (IntKind.u64.wrap (x9 + (shl .u64 1 (IntKind.u64.wrap (t157)))))) else (none))) else (none)))
def compact_RangeNodes.l1 : Nat → List (S99) → Int → Int → Option ((List (S99)))
  | 0, _, _, _ => none
  | k + 1, x2, x8, x9 => if x8 = 0 then (some x2) else ((bits_Len64.f k x8).bind fun t163 => (if 0 ≤ (IntKind.u64.wrap ((IntKind.u64.wrap (t163)) - 1)) then ((compact_NewNodeID.f (IntKind.u64.wrap ((IntKind.u64.wrap (t163)) - 1)) (shr .u64 x9 (IntKind.u64.wrap ((IntKind.u64.wrap (t163)) - 1)))).bind fun bt164 => (if x2.length < 8796093022208 then (compact_RangeNodes.l1 k (x2 ++ [(⟨bt164.1, bt164.2⟩ : S99)]) (Go.bits .xor .u64 x8 (shl .u64 1 (IntKind.u64.wrap ((IntKind.u64.wrap (t163)) - 1)))) (IntKind.u64.wrap (x9 + (shl .u64 1 (IntKind.u64.wrap ((IntKind.u64.wrap (t163)) - 1)))))) else (none))) else (none)))
end
def compact_RangeNodes.f (k : Nat) (a0 : Int) (a1 : Int) (l2 : List (S99)) : Option ((List (S99))) := (compact_Decompose.f k a0 a1).bind fun bt155 => (compact_RangeNodes.l0 k l2 bt155.1 bt155.2 a0)
theorem compact_RangeNodes.mono_l : ∀ k, (∀ y0 y1 y2 y3, LeO (compact_RangeNodes.l0 k y0 y1 y2 y3) (compact_RangeNodes.l0 (k + 1) y0 y1 y2 y3)) ∧ (∀ y0 y1 y2, LeO (compact_RangeNodes.l1 k y0 y1 y2) (compact_RangeNodes.l1 (k + 1) y0 y1 y2))
  | 0 => ⟨fun _ _ _ _ r h => by simp [compact_RangeNodes.l0] at h, fun _ _ _ r h => by simp [compact_RangeNodes.l1] at h⟩
  | k + 1 => by
    obtain ⟨ih0, ih1⟩ := compact_RangeNodes.mono_l k
    refine ⟨?_, ?_⟩
    · intro y0 y1 y2 y3
      unfold compact_RangeNodes.l0
      repeat' first
      | (with_reducible exact ih0 _ _ _ _)
      | (with_reducible exact ih1 _ _ _)
      | (with_reducible exact bits_Len64.mono _ _)
      | (with_reducible exact compact_Decompose.mono _ _ _)
      | (with_reducible exact LeO.refl _)
      | (with_reducible exact LeO.none _)
      | (with_reducible refine LeO.ite ?_ ?_)
      | (with_reducible refine LeO.bind ?_ (fun _ => ?_))
      | exact ih0 _ _ _ _
      | exact ih1 _ _ _
      | exact bits_Len64.mono _ _
      | exact compact_Decompose.mono _ _ _
      | exact LeO.none _
      | refine LeO.ite ?_ ?_
      | refine LeO.bind ?_ (fun _ => ?_)
    · intro y0 y1 y2
      unfold compact_RangeNodes.l1
      repeat' first
      | (with_reducible exact ih0 _ _ _ _)
      | (with_reducible exact ih1 _ _ _)
      | (with_reducible exact bits_Len64.mono _ _)
      | (with_reducible exact compact_Decompose.mono _ _ _)
      | (with_reducible exact LeO.refl _)
      | (with_reducible exact LeO.none _)
      | (with_reducible refine LeO.ite ?_ ?_)
      | (with_reducible refine LeO.bind ?_ (fun _ => ?_))
      | exact ih0 _ _ _ _
      | exact ih1 _ _ _
      | exact bits_Len64.mono _ _
      | exact compact_Decompose.mono _ _ _
      | exact LeO.none _
      | refine LeO.ite ?_ ?_
      | refine LeO.bind ?_ (fun _ => ?_)
theorem compact_RangeNodes.mono : ∀ a0 a1 a2 k, LeO (compact_RangeNodes.f k a0 a1 a2) (compact_RangeNodes.f (k + 1) a0 a1 a2) := by
  intro a0 a1 a2 k
  obtain ⟨ih0, ih1⟩ := compact_RangeNodes.mono_l k
  unfold compact_RangeNodes.f
  repeat' first
      | (with_reducible exact ih0 _ _ _ _)
      | (with_reducible exact ih1 _ _ _)
      | (with_reducible exact bits_Len64.mono _ _)
      | (with_reducible exact compact_Decompose.mono _ _ _)
      | (with_reducible exact LeO.refl _)
      | (with_reducible exact LeO.none _)
      | (with_reducible refine LeO.ite ?_ ?_)
      | (with_reducible refine LeO.bind ?_ (fun _ => ?_))
      | exact ih0 _ _ _ _
      | exact ih1 _ _ _
      | exact bits_Len64.mono _ _
      | exact compact_Decompose.mono _ _ _
      | exact LeO.none _
      | refine LeO.ite ?_ ?_
      | refine LeO.bind ?_ (fun _ => ?_)
def compact_NodeID_Coverage.f (a0_0 : Int) (a0_1 : Int) : Option (Int × Int) := if 0 ≤ a0_0 then (some (shl .u64 a0_1 a0_0, shl .u64 (IntKind.u64.wrap (a0_1 + 1)) a0_0)) else (none)
def compact_NodeID_Parent.f (a0_0 : Int) (a0_1 : Int) : Option (Int × Int) := (compact_NewNodeID.f (IntKind.u64.wrap (a0_0 + 1)) (a0_1 / 2)).bind fun bt172 => (some (bt172.1, bt172.2))
def compact_NodeID_Sibling.f (a0_0 : Int) (a0_1 : Int) : Option (Int × Int) := (compact_NewNodeID.f a0_0 (Go.bits .xor .u64 a0_1 1)).bind fun bt176 => (some (bt176.1, bt176.2))
def proof_Nodes_skipFirst.f (l0_0 : List (S99)) (a0_1 : Int) (a0_2 : Int) (a0_3 : Int) (a0_4 : Int) : Option ((List (S99)) × Int × Int × Int × Int) := if 1 ≤ (l0_0.length : Int) then ((some (l0_0.drop (1 : Int).toNat : List (S99))).bind fun y180 => (if a0_1 < a0_2 then (some (y180, wrap64 (a0_1 - 1), wrap64 (a0_2 - 1), a0_3, a0_4)) else (some (y180, a0_1, a0_2, a0_3, a0_4)))) else (none)
def impl_fromNode.f (a0_0 : Int) (a0_1 : Int) : Option (Int × Int) := some (a0_0, a0_1)
set_option maxHeartbeats 8000000 in
set_option maxRecDepth 100000 in
theorem impl_fromNode.calls (a0_0 : Int) (a0_1 : Int) (r1 : Int) (r2 : Int) (w : World) (h : impl_fromNode.f a0_0 a0_1 = some (r1, r2)) :
    Calls Tryd.prog 54 #[.agg #[.int .u64 a0_0, .int .u64 a0_1]] w fun e w' => e = .returned (.agg #[.int .u64 r1, .int .u64 r2]) ∧ Below w.heap.size w w' := by
  have hu99 := Tryd.underlying99
  have hu49 := Tryd.underlying49
  have HB := Aside0.mk (Below.refl w.heap.size w)
  have H : (some (a0_0, a0_1)) = some (r1, r2) := h
  clear h
  simp only [Option.some.injEq, Prod.mk.injEq] at H
  obtain ⟨rfl, rfl⟩ := H
  go_enter Tryd.func54, Tryd.ntmps54
  go_wp2_with (first | ((with_reducible refine gate_dst (N := 1) rfl ?_); refine box_event ?hg (N := 1) ?hd (cs := #[.int .u64 a0_0, .int .u64 a0_1]) (t := 99) ?hr ?_; (case hd => rfl); (case hg => rfl); (case hr => first | (go_simp; done) | (go_simp; rfl)); intro gb183 hg w2 hbox hb; have n0_ := Aside0.mk (below_step (by repeat (first | (with_reducible first | exact HB.out | apply below_alloc | apply pw_below_drewN | apply below_drew1) | exact HB.out)) hb); have n1_ := Aside0.mk (hbox); have n2_ := Aside0.mk ((by rw [hg]; exact (below_size (by repeat (first | (with_reducible first | exact HB.out | apply below_alloc | apply pw_below_drewN | apply below_drew1) | exact HB.out))) : w.heap.size ≤ gb183)); have n3_ := Aside0.mk ((by rw [hg]; exact (below_size (by repeat (first | (with_reducible first | exact HB.out | apply below_alloc | apply pw_below_drewN | apply below_drew1) | exact HB.out))) : w.heap.size ≤ gb183)); clear HB; have HB := n0_; have BK183 := n1_; have GW183 := n2_; have GE183 := n3_; clear n0_ n1_ n2_ n3_; clear hb hbox hg) | ((with_reducible refine gate_dst (N := 2) rfl ?_); refine box_event ?hg (N := 2) ?hd (cs := #[.int .u64 0, .int .u64 0]) (t := 49) ?hr ?_; (case hd => rfl); (case hg => rfl); (case hr => first | (go_simp; done) | (go_simp; rfl)); intro gb184 hg w3 hbox hb; have n0_ := Aside0.mk (blk_below (g := gb183) (o := .cells #[.int .u64 a0_0, .int .u64 a0_1] 99 (0, 0)) (by (with_reducible repeat (first | refine blk_drewN ?_ _ | refine blk_drew ?_ | refine blk_alloc ?_ _)); exact BK183.out) hb); have n1_ := Aside0.mk (below_step (by repeat (first | (with_reducible first | exact HB.out | apply below_alloc | apply pw_below_drewN | apply below_drew1 | refine below_set ?_ GE183.out) | exact HB.out)) hb); have n2_ := Aside0.mk (hbox); have n3_ := Aside0.mk ((by rw [hg]; exact (below_size (by repeat (first | (with_reducible first | exact HB.out | apply below_alloc | apply pw_below_drewN | apply below_drew1 | refine below_set ?_ GE183.out) | exact HB.out))) : w.heap.size ≤ gb184)); have n4_ := Aside0.mk ((by rw [hg]; exact (below_size (by repeat (first | (with_reducible first | exact HB.out | apply below_alloc | apply pw_below_drewN | apply below_drew1 | refine below_set ?_ GE183.out) | exact HB.out))) : w.heap.size ≤ gb184)); have n5_ := Aside0.mk ((by rw [hg]; exact Nat.ne_of_lt (blk_lt (g := gb183) (o := .cells #[.int .u64 a0_0, .int .u64 a0_1] 99 (0, 0)) (by (with_reducible repeat (first | refine blk_drewN ?_ _ | refine blk_drew ?_ | refine blk_alloc ?_ _)); exact BK183.out)) : gb183 ≠ gb184)); have n6_ := Aside0.mk ((by rw [hg]; exact Nat.ne_of_gt (blk_lt (g := gb183) (o := .cells #[.int .u64 a0_0, .int .u64 a0_1] 99 (0, 0)) (by (with_reducible repeat (first | refine blk_drewN ?_ _ | refine blk_drew ?_ | refine blk_alloc ?_ _)); exact BK183.out)) : gb184 ≠ gb183)); clear BK183; clear HB; have BK183 := n0_; have HB := n1_; have BK184 := n2_; have GW184 := n3_; have GE184 := n4_; have NB183_184 := n5_; have NB184_183 := n6_; clear n0_ n1_ n2_ n3_ n4_ n5_ n6_; clear hb hbox hg; have hnb4 := NB183_184.out; have hnc4 := NB184_183.out; have hcz5_0 : w3.cell? ⟨gb183, 0, none⟩ = some (.int .u64 a0_0) := (blk_cell BK183.out 0).trans rfl; have hcz5_1 : w3.cell? ⟨gb183, 1, none⟩ = some (.int .u64 a0_1) := (blk_cell BK183.out 1).trans rfl; have hfz5_0 := blk_frozen BK183.out 0; have hfz5_1 := blk_frozen BK183.out 1; have hcz6_0 : w3.cell? ⟨gb184, 0, none⟩ = some (.int .u64 0) := (blk_cell BK184.out 0).trans rfl; have hcz6_1 : w3.cell? ⟨gb184, 1, none⟩ = some (.int .u64 0) := (blk_cell BK184.out 1).trans rfl; have hfz6_0 := blk_frozen BK184.out 0; have hfz6_1 := blk_frozen BK184.out 1))
  refine bodyPost_ret (results_cell_row rfl _ _ gb184 49 #[.int .u64 a0_0, .int .u64 a0_1] (0, 0) _ rfl (by (with_reducible repeat (first | refine blk_drewN ?_ _ | refine blk_drew ?_ | refine blk_alloc ?_ _)); refine blk_put (cs := #[.int .u64 a0_0, .int .u64 0]) ?_ 1 _ rfl; (with_reducible repeat (first | refine blk_drewN ?_ _ | refine blk_drew ?_ | refine blk_alloc ?_ _)); refine blk_put (cs := #[.int .u64 0, .int .u64 0]) ?_ 0 _ rfl; (with_reducible repeat (first | refine blk_drewN ?_ _ | refine blk_drew ?_ | refine blk_alloc ?_ _)); exact BK184.out) Tryd.underlying49 rfl (by kernel_rfl)) rfl ?_
  exact ⟨by first | rfl | (simp [errW_none, errW_some] <;> rfl) | (simp [*, errW_none, errW_some] <;> rfl), by repeat (first | (with_reducible first | exact HB.out | apply below_alloc | apply pw_below_drewN | apply below_drew1 | refine below_set ?_ GE183.out | refine below_set ?_ GE184.out) | exact HB.out)⟩
def proof_Nodes_Ephem.f (l0_0 : List (S99)) (a0_1 : Int) (a0_2 : Int) (a0_3 : Int) (a0_4 : Int) : Option (Int × Int × Int × Int) := some (a0_3, a0_4, a0_1, a0_2)
def impl_fromNodes.l0 : Nat → List (S49) → List (S99) → Int → Int → Option ((List (S49)))
  | 0, _, _, _, _ => none
  | k + 1, x3, x6, x7, x8 => if x8 < x7 then (if 0 ≤ x8 then (if x8 < (x6.length : Int) then ((impl_fromNode.f ((rd_T99 x6 x8).f0) ((rd_T99 x6 x8).f1)).bind fun bt189 => (if x3.length < 8796093022208 then (impl_fromNodes.l0 k (x3 ++ [(⟨bt189.1, bt189.2⟩ : S49)]) x6 x7 (wrap64 (x8 + 1))) else (none))) else (none)) else (none)) else (some x3)
def impl_fromNodes.f (k : Nat) (l0 : List (S99)) : Option ((List (S49))) := impl_fromNodes.l0 k ([] : List (S49)) l0 (l0.length : Int) 0
theorem impl_fromNodes.mono_l : ∀ k, (∀ y0 y1 y2 y3, LeO (impl_fromNodes.l0 k y0 y1 y2 y3) (impl_fromNodes.l0 (k + 1) y0 y1 y2 y3))
  | 0 => fun _ _ _ _ r h => by simp [impl_fromNodes.l0] at h
  | k + 1 => by
    have ih0 := impl_fromNodes.mono_l k
    · intro y0 y1 y2 y3
      unfold impl_fromNodes.l0
      repeat' first
      | (with_reducible exact ih0 _ _ _ _)
      | (with_reducible exact LeO.refl _)
      | (with_reducible exact LeO.none _)
      | (with_reducible refine LeO.ite ?_ ?_)
      | (with_reducible refine LeO.bind ?_ (fun _ => ?_))
      | exact ih0 _ _ _ _
      | exact LeO.none _
      | refine LeO.ite ?_ ?_
      | refine LeO.bind ?_ (fun _ => ?_)
theorem impl_fromNodes.mono : ∀ a0 k, LeO (impl_fromNodes.f k a0) (impl_fromNodes.f (k + 1) a0) := by
  intro a0 k
  have ih0 := impl_fromNodes.mono_l k
  unfold impl_fromNodes.f
  repeat' first
      | (with_reducible exact ih0 _ _ _ _)
      | (with_reducible exact LeO.refl _)
      | (with_reducible exact LeO.none _)
      | (with_reducible refine LeO.ite ?_ ?_)
      | (with_reducible refine LeO.bind ?_ (fun _ => ?_))
      | exact ih0 _ _ _ _
      | exact LeO.none _
      | refine LeO.ite ?_ ?_
      | refine LeO.bind ?_ (fun _ => ?_)
def impl_fromProof.f (k : Nat) (l0_0 : List (S99)) (a0_1 : Int) (a0_2 : Int) (a0_3 : Int) (a0_4 : Int) : Option ((List (S49)) × Int × Int × Int × Int) := (proof_Nodes_Ephem.f l0_0 a0_1 a0_2 a0_3 a0_4).bind fun bt196 => ((impl_fromNodes.f k l0_0).bind fun t201 => ((impl_fromNode.f bt196.1 bt196.2.1).bind fun bt204 => (some (t201, bt204.1, bt204.2, bt196.2.2.1, bt196.2.2.2))))
theorem impl_fromProof.mono : ∀ a0 a1 a2 a3 a4 k, LeO (impl_fromProof.f k a0 a1 a2 a3 a4) (impl_fromProof.f (k + 1) a0 a1 a2 a3 a4) := by
  intro a0 a1 a2 a3 a4 k
  unfold impl_fromProof.f
  repeat' first
      | (with_reducible exact impl_fromNodes.mono _ _)
      | (with_reducible exact LeO.refl _)
      | (with_reducible exact LeO.none _)
      | (with_reducible refine LeO.ite ?_ ?_)
      | (with_reducible refine LeO.bind ?_ (fun _ => ?_))
      | exact impl_fromNodes.mono _ _
      | exact LeO.none _
      | refine LeO.ite ?_ ?_
      | refine LeO.bind ?_ (fun _ => ?_)
def proof_innerProofSize.f (k : Nat) (a0 : Int) (a1 : Int) : Option (Int) := (bits_Len64.f k (Go.bits .xor .u64 a0 (IntKind.u64.wrap (a1 - 1)))).bind fun t206 => (some t206)
theorem proof_innerProofSize.mono : ∀ a0 a1 k, LeO (proof_innerProofSize.f k a0 a1) (proof_innerProofSize.f (k + 1) a0 a1) := by
  intro a0 a1 k
  unfold proof_innerProofSize.f
  repeat' first
      | (with_reducible exact bits_Len64.mono _ _)
      | (with_reducible exact LeO.refl _)
      | (with_reducible exact LeO.none _)
      | (with_reducible refine LeO.ite ?_ ?_)
      | (with_reducible refine LeO.bind ?_ (fun _ => ?_))
      | exact bits_Len64.mono _ _
      | exact LeO.none _
      | refine LeO.ite ?_ ?_
      | refine LeO.bind ?_ (fun _ => ?_)
end Go.Proofs.YtielnphmcaecdaaDoor.PAll
namespace Go.Proofs.YtielnphmcaecdaaDoor.PAll
open Go.RowKit Go.Proofs.YtielnphmcaecdaaDoorW.PrintWords Go.Proofs.YtielnphmcaecdaaDoorW.PrintLast Go.Proofs.YtielnphmcaecdaaDoorW.PrintMore
set_option linter.unusedVariables false
set_option linter.unusedSimpArgs false
structure Vs (q : Nat) (w w' : World) : Prop where
  os : w'.os = w.os
  tape : w'.tape = w.tape
  output : w'.output = w.output
  size : w.heap.size ≤ w'.heap.size
  block : ∀ k, k < w.heap.size → k ≠ q → (∀ c, w.heap[k]? ≠ some (.cells c 51 (0, 0))) → w'.heap[k]? = w.heap[k]?
theorem Vs.refl (q : Nat) (w : World) : Vs q w w := ⟨rfl, rfl, rfl, Nat.le_refl _, fun _ _ _ _ => rfl⟩
theorem Vs.trans {q : Nat} {a b c : World} (h : Vs q a b) (g : Vs q b c) : Vs q a c :=
  ⟨g.os.trans h.os, g.tape.trans h.tape, g.output.trans h.output, Nat.le_trans h.size g.size, fun k hk hq hc => by
    have h1 := h.block k hk hq hc
    exact (g.block k (Nat.lt_of_lt_of_le hk h.size) hq (fun c => by rw [h1]; exact hc c)).trans h1⟩
theorem Vs.of {q : Nat} {a b : World} (h : Below a.heap.size a b) : Vs q a b := ⟨h.os, h.tape, h.output, h.size, fun k hk _ _ => h.block k hk⟩
theorem Vs.blk {q g t : Nat} {w w' : World} {c : Array Value} (h : Vs q w w') (hb : w.heap[g]? = some (.cells c t (0, 0))) (hq : g ≠ q) (ht : t ≠ 51) : w'.heap[g]? = some (.cells c t (0, 0)) :=
  (h.block g (blk_lt hb) hq (fun d hd => by rw [hb] at hd; injection hd with hd; injection hd with _ hd; exact ht hd)).trans hb
theorem Vs.pres {q : Nat} {w w' : World} {SV : Array Value} (h : Vs q w w') (hq : w.heap[q]? = some (.cells SV 36 (0, 0))) : Pres5 w w' := fun k hk => by
  obtain ⟨c, hc⟩ := hk
  rw [h.blk hc (fun e => by subst e; rw [hq] at hc; injection hc with hc; injection hc with _ hc; cases hc) (by decide), hc]
theorem Vs.rw {q : Nat} {w w' : World} {SV : Array Value} {tb : Nat} {v : Value} {rs : List SH} (h : Vs q w w') (hq : w.heap[q]? = some (.cells SV 36 (0, 0))) (hR : Rw w tb v rs) : Rw w' tb v rs :=
  Kd.R_mono (Kd.R_step (Kd.R_tight rfl hR) (fun k hk hlt => by
    obtain ⟨c, hc⟩ := Kd.R_typed hR k hk.symm
    rw [h.blk hc (fun e => by subst e; rw [hq] at hc; injection hc with hc; injection hc with _ hc; cases hc) (by decide), hc])) (fun _ _ => trivial)
theorem lit_R (X : World) {B : Nat} (h : B ≤ X.heap.size) : Kd.R (Kd.int .u8) 5 (X.alloc (.cells #[] 5)) B (fun k => B ≤ k) (.slice (some ⟨X.heap.size, 0, none⟩) 0 0) [] := by
  refine ⟨fun k hk => ?_, [], ⟨rfl, .inr ⟨X.heap.size, 0, #[], rfl, h, blk_new X _, Nat.le_refl _, by decide, rfl, rfl⟩⟩, Reps.none _ _⟩
  have : X.heap.size = k := by simpa [Value.ownBlock] using hk
  omega
theorem Vs.below {q B : Nat} {w w' : World} (h : Vs q w w') (hq : B ≤ q) (hv : ∀ k c, k < B → w.heap[k]? ≠ some (.cells c 51 (0, 0))) (hB : B ≤ w.heap.size) : Below B w w' :=
  ⟨h.os, h.tape, h.output, h.size, fun k hk => h.block k (by omega) (by omega) (fun c => hv k c hk)⟩
theorem seen_end {w W0 wq : World} {tb q : Nat} {SV v13 : Value} {vs vs' : List S51} {ok : Nat → Prop} (hb : tb ≤ w.heap.size) (HB : Below w.heap.size w W0) (HS0 : Kd.S k51 51 W0 tb ok SV vs) (HQ13 : wq.heap[q]? = some (.cells #[SV] 36 (0, 0))) (HK13 : ∀ k, k < W0.heap.size → some k ≠ SV.ownBlock → wq.heap[k]? = W0.heap[k]?) (HB13 : Below tb W0 wq) (HS13 : Kd.S k51 51 wq tb (fun _ => True) v13 vs') :
    ∃ SV', (wq.setCell ⟨q, 0, none⟩ v13).heap[q]? = some (.cells #[SV'] 36 (0, 0)) ∧ Kd.S k51 51 (wq.setCell ⟨q, 0, none⟩ v13) tb (fun _ => True) SV' vs' ∧ (∀ B, B ≤ tb → B ≤ q → Below B w (wq.setCell ⟨q, 0, none⟩ v13)) ∧ Vs q w (wq.setCell ⟨q, 0, none⟩ v13) := by
  have hB : ∀ B, B ≤ tb → B ≤ q → Below B w (wq.setCell ⟨q, 0, none⟩ v13) := fun B h1 h2 => ((HB.mono (Nat.le_trans h1 hb)).trans (HB13.mono h1)).setCell (p := ⟨q, 0, none⟩) h2 _
  have h0 := hB 0 (Nat.zero_le _) (Nat.zero_le _)
  refine ⟨v13, blk_set HQ13 0 v13, Kd.S_set HS13 HQ13 (by decide) 0 v13, hB, ⟨h0.os, h0.tape, h0.output, h0.size, fun k hk hq hc => ?_⟩⟩
  rw [Below.heap_setCell wq ⟨q, 0, none⟩ v13 k hq, HK13 k (Nat.lt_of_lt_of_le hk HB.size) (fun e => ?_)]
  · exact HB.block k hk
  · obtain ⟨c, hc2⟩ := Kd.S_typed HS0 k e.symm
    exact hc c ((HB.block k hk).symm.trans hc2)
end Go.Proofs.YtielnphmcaecdaaDoor.PAll
