-- Written by a program of this session (wip/tools)
import Derived.Test.YtielnphmcaecdaaDoorQTRTreeMem
import Derived.Test.YtielnphmcaecdaaDoorQTRPAllx4
import Derived.Outline
import Derived.Deep.QuietTactic
import Derived.BigQuiet
import Derived.Deep.RegionWith
import Derived.Deep.RegionLaw
import Derived.Deep.RegionHeldLaw
import Derived.IntWalk
import Derived.Test.YtielnphmcaecdaaDoorQTRV0
import Derived.Laws.BitsAllLaws
import Derived.Test.YtielnphmcaecdaaDoorQTRPAllx2
namespace Go.Proofs.YtielnphmcaecdaaDoor.PAll
open Go.RowKit Go.Proofs.YtielnphmcaecdaaDoorW.PrintWords Go.Proofs.YtielnphmcaecdaaDoorW.PrintLast Go.Proofs.YtielnphmcaecdaaDoorW.PrintMore
set_option linter.unusedVariables false
set_option linter.unusedSimpArgs false
structure Vs (q : Nat) (w w' : World) : Prop where
  os : w'.os = w.os
  tape : w'.tape = w.tape
  output : w'.output = w.output
  size : w.heap.size ≤ w'.heap.size
  block : ∀ k, k < w.heap.size → k ≠ q → (∀ c, w.heap[k]? ≠ some (.cells c 51 (0, 0))) → w'.heap[k]? = w.heap[k]?
theorem Vs.refl (q : Nat) (w : World) : Vs q w w := ⟨rfl, rfl, rfl, Nat.le_refl _, fun _ _ _ _ => rfl⟩
theorem Vs.trans {q : Nat} {a b c : World} (h : Vs q a b) (g : Vs q b c) : Vs q a c :=
  ⟨g.os.trans h.os, g.tape.trans h.tape, g.output.trans h.output, Nat.le_trans h.size g.size, fun k hk hq hc => by
    have h1 := h.block k hk hq hc
    exact (g.block k (Nat.lt_of_lt_of_le hk h.size) hq (fun c => by rw [h1]; exact hc c)).trans h1⟩
theorem Vs.of {q : Nat} {a b : World} (h : Below a.heap.size a b) : Vs q a b := ⟨h.os, h.tape, h.output, h.size, fun k hk _ _ => h.block k hk⟩
theorem Vs.blk {q g t : Nat} {w w' : World} {c : Array Value} (h : Vs q w w') (hb : w.heap[g]? = some (.cells c t (0, 0))) (hq : g ≠ q) (ht : t ≠ 51) : w'.heap[g]? = some (.cells c t (0, 0)) :=
  (h.block g (blk_lt hb) hq (fun d hd => by rw [hb] at hd; injection hd with hd; injection hd with _ hd; exact ht hd)).trans hb
theorem Vs.pres {q : Nat} {w w' : World} {SV : Array Value} (h : Vs q w w') (hq : w.heap[q]? = some (.cells SV 36 (0, 0))) : Pres5 w w' := fun k hk => by
  obtain ⟨c, hc⟩ := hk
  rw [h.blk hc (fun e => by subst e; rw [hq] at hc; injection hc with hc; injection hc with _ hc; cases hc) (by decide), hc]
theorem Vs.rw {q : Nat} {w w' : World} {SV : Array Value} {tb : Nat} {v : Value} {rs : List SH} (h : Vs q w w') (hq : w.heap[q]? = some (.cells SV 36 (0, 0))) (hR : Rw w tb v rs) : Rw w' tb v rs :=
  Kd.R_mono (Kd.R_step (Kd.R_tight rfl hR) (fun k hk hlt => by
    obtain ⟨c, hc⟩ := Kd.R_typed hR k hk.symm
    rw [h.blk hc (fun e => by subst e; rw [hq] at hc; injection hc with hc; injection hc with _ hc; cases hc) (by decide), hc])) (fun _ _ => trivial)
theorem lit_R (X : World) {B : Nat} (h : B ≤ X.heap.size) : Kd.R (Kd.int .u8) 5 (X.alloc (.cells #[] 5)) B (fun k => B ≤ k) (.slice (some ⟨X.heap.size, 0, none⟩) 0 0) [] := by
  refine ⟨fun k hk => ?_, [], ⟨rfl, .inr ⟨X.heap.size, 0, #[], rfl, h, blk_new X _, Nat.le_refl _, by decide, rfl, rfl⟩⟩, Reps.none _ _⟩
  have : X.heap.size = k := by simpa [Value.ownBlock] using hk
  omega
theorem Vs.below {q B : Nat} {w w' : World} (h : Vs q w w') (hq : B ≤ q) (hv : ∀ k c, k < B → w.heap[k]? ≠ some (.cells c 51 (0, 0))) (hB : B ≤ w.heap.size) : Below B w w' :=
  ⟨h.os, h.tape, h.output, h.size, fun k hk => h.block k (by omega) (by omega) (fun c => hv k c hk)⟩
theorem seen_end {w W0 wq : World} {tb q : Nat} {SV v13 : Value} {vs vs' : List S51} {ok : Nat → Prop} (hb : tb ≤ w.heap.size) (HB : Below w.heap.size w W0) (HS0 : Kd.S k51 51 W0 tb ok SV vs) (HQ13 : wq.heap[q]? = some (.cells #[SV] 36 (0, 0))) (HK13 : ∀ k, k < W0.heap.size → some k ≠ SV.ownBlock → wq.heap[k]? = W0.heap[k]?) (HB13 : Below tb W0 wq) (HS13 : Kd.S k51 51 wq tb (fun _ => True) v13 vs') :
    ∃ SV', (wq.setCell ⟨q, 0, none⟩ v13).heap[q]? = some (.cells #[SV'] 36 (0, 0)) ∧ Kd.S k51 51 (wq.setCell ⟨q, 0, none⟩ v13) tb (fun _ => True) SV' vs' ∧ (∀ B, B ≤ tb → B ≤ q → Below B w (wq.setCell ⟨q, 0, none⟩ v13)) ∧ Vs q w (wq.setCell ⟨q, 0, none⟩ v13) := by
  have hB : ∀ B, B ≤ tb → B ≤ q → Below B w (wq.setCell ⟨q, 0, none⟩ v13) := fun B h1 h2 => ((HB.mono (Nat.le_trans h1 hb)).trans (HB13.mono h1)).setCell (p := ⟨q, 0, none⟩) h2 _
  have h0 := hB 0 (Nat.zero_le _) (Nat.zero_le _)
  refine ⟨v13, blk_set HQ13 0 v13, Kd.S_set HS13 HQ13 (by decide) 0 v13, hB, ⟨h0.os, h0.tape, h0.output, h0.size, fun k hk hq hc => ?_⟩⟩
  rw [Below.heap_setCell wq ⟨q, 0, none⟩ v13 k hq, HK13 k (Nat.lt_of_lt_of_le hk HB.size) (fun e => ?_)]
  · exact HB.block k hk
  · obtain ⟨c, hc2⟩ := Kd.S_typed HS0 k e.symm
    exact hc c ((HB.block k hk).symm.trans hc2)
set_option maxHeartbeats 8000000 in
set_option maxRecDepth 100000 in
theorem seen60.calls (lv ix : Int) (A : Option Addr) (c : Nat) (b : List Int) (tb q : Nat) (SV : Value) (vs : List S51) (w : World) (hb : tb ≤ w.heap.size) (hq : w.heap[q]? = some (.cells #[SV] 36 (0, 0))) (hS : Kd.S k51 51 w tb (fun _ => True) SV vs)
    (hC : Kd.C (Kd.int .u8) w A b.length b) (hc : b.length ≤ c) (hl : vs.length < 1099511627776) (hbl : b.length ≤ 140737488355328) :
    Calls Tryd.prog 60 #[.agg #[.int .u64 lv, .int .u64 ix], .slice A b.length c, .pointer (some ⟨q, 0, none⟩)] w fun e w' => e = .returned (.tuple #[]) ∧ ∃ SV', w'.heap[q]? = some (.cells #[SV'] 36 (0, 0)) ∧ Kd.S k51 51 w' tb (fun _ => True) SV' (vs ++ [⟨⟨lv, ix⟩, b⟩]) ∧ (∀ B, B ≤ tb → B ≤ q → Below B w w') ∧ Vs q w w' := by
  have HB := Aside0.mk (below_alloc (Below.refl w.heap.size w) (Obj.cells #[Value.int IntKind.u64 lv, Value.int IntKind.u64 ix] 99))
  have hbk := blk_new w (Obj.cells #[Value.int IntKind.u64 lv, Value.int IntKind.u64 ix] 99)
  have HQ := Aside0.mk hq
  have HS := Aside0.mk hS
  have HC := Aside0.mk hC
  have HCC := Aside0.mk hc
  have HL := Aside0.mk hl
  have HBL := Aside0.mk hbl
  have HTB := Aside0.mk hb
  have hqlt := blk_lt hq
  clear hq hS hC hc hl hbl hb
  go_enter Tryd.func60, Tryd.ntmps60
  go_wp2_with (fail)
  generalize w.alloc (Obj.cells #[Value.int IntKind.u64 lv, Value.int IntKind.u64 ix] 99) = W0 at HB hbk ⊢
  have HQ0 := Aside0.mk (blk_below HQ.out HB.out)
  have HS0 := Aside0.mk (Kd.S_mono (ok' := fun k => k < W0.heap.size) (Kd.S_bound (Kd.S_below HS.out HB.out)) (fun k hk => hk.2.2.1))
  have HC0 := Aside0.mk (Kd.C_below HC.out HB.out)
  have HBK := Aside0.mk hbk
  have y0 : W0.cell? ⟨q, 0, none⟩ = some SV := blk_cell HQ0.out 0
  have y1 : W0.cell? ⟨w.heap.size, 0, none⟩ = some (.int .u64 lv) := blk_cell hbk 0
  have y2 : W0.cell? ⟨w.heap.size, 1, none⟩ = some (.int .u64 ix) := blk_cell hbk 1
  have HQL := Aside0.mk (show q < W0.heap.size from Nat.lt_of_lt_of_le hqlt HB.out.size)
  have HWL := Aside0.mk (show w.heap.size < W0.heap.size from blk_lt hbk)
  have HBn := Aside0.mk (Below.refl W0.heap.size W0)
  have hqw : q ≠ w.heap.size := Nat.ne_of_lt hqlt
  have hqw' : w.heap.size ≠ q := Nat.ne_of_gt hqlt
  clear hbk hqlt
  have z0 : ∀ o, (W0.alloc o).cell? ⟨q, 0, none⟩ = some SV := fun o => (World.cell?_alloc_lt _ _ _ HQL.out).trans y0
  have z1 : ∀ o, (W0.alloc o).cell? ⟨w.heap.size, 0, none⟩ = some (.int .u64 lv) := fun o => (World.cell?_alloc_lt _ _ _ HWL.out).trans y1
  have z2 : ∀ o, (W0.alloc o).cell? ⟨w.heap.size, 1, none⟩ = some (.int .u64 ix) := fun o => (World.cell?_alloc_lt _ _ _ HWL.out).trans y2
  go_region_law (first
    | (go_simp
       go_at_call 54
       refine (impl_fromNode.calls lv ix lv ix _ rfl).mono ?_
       rintro e wq ⟨rfl, hB⟩
       have hB1 : Below W0.heap.size W0 wq := below_step (by repeat (first | exact HBn.out | exact Below.refl _ _ | (refine below_alloc ?_ _) | apply Below.drew | apply pw_below_drewN | apply below_drew)) hB
       try have H8 := Aside0.mk (Kd.R_below (Kd.R_drew (lit_R _ (below_size (by repeat (first | exact HBn.out | exact Below.refl _ _ | (refine below_alloc ?_ _) | apply Below.drew | apply pw_below_drewN | apply below_drew))))) hB)
       try have H8 := Aside0.mk (Kd.R_below (lit_R _ (below_size (by repeat (first | exact HBn.out | exact Below.refl _ _ | (refine below_alloc ?_ _) | apply Below.drew | apply pw_below_drewN | apply below_drew)))) hB)
       try have H10 := Aside0.mk (Kd.R_below H10.out (below_step (by repeat (first | exact Below.refl _ _ | apply Below.drew | apply below_drew)) hB))
       have HBn := Aside0.mk hB1
       have v0_ := (HBn.out.cell (p := ⟨q, 0, none⟩) HQL.out).trans y0
       have z0_ : ∀ o, (wq.alloc o).cell? ⟨q, 0, none⟩ = some SV := fun o => (World.cell?_alloc_lt _ _ _ (Nat.lt_of_lt_of_le HQL.out HBn.out.size)).trans v0_
       clear hB hB1)
    | (refine Kd.R_append_rows_step (Kd.int .u8) (w0 := W0) W0.heap.size ?hw (.tmp 8) (.tmp 9) 27 5 (.int .u8 0) 1 rfl Tryd.underlying27 info5 rfl (by decide) (by omega) _ [] b A b.length c (fun k => W0.heap.size ≤ k) (fun _ => False) rfl rfl ?aO ?aR (fun _ _ h => h) (fun _ h => h.elim) ?aF ?hB ?hbase ?aL ?_
       (case hw => simp [Region.wanted])
       (case aO => repeat (first | exact H8.out | exact lit_R _ (below_size (by repeat (first | exact HBn.out | exact Below.refl _ _ | (refine below_alloc ?_ _) | apply Below.drew | apply pw_below_drewN | apply below_drew))) | (refine Kd.R_drewN ?_ _) | (refine Kd.R_drew ?_)))
       (case aR => exact Kd.C_below HC0.out (by repeat (first | exact HBn.out | exact Below.refl _ _ | (refine below_alloc ?_ _) | apply Below.drew | apply pw_below_drewN | apply below_drew)))
       (case aF => exact fun k hk => Nat.le_trans (below_size (by repeat (first | exact HBn.out | exact Below.refl _ _ | (refine below_alloc ?_ _) | apply Below.drew | apply pw_below_drewN | apply below_drew))) hk)
       (case hB => exact (by repeat (first | exact HBn.out | exact Below.refl _ _ | (refine below_alloc ?_ _) | apply Below.drew | apply pw_below_drewN | apply below_drew)))
       (case hbase => exact below_size (by repeat (first | exact HBn.out | exact Below.refl _ _ | (refine below_alloc ?_ _) | apply Below.drew | apply pw_below_drewN | apply below_drew)))
       (case aL => have := HBL.out; simp; omega)
       intro v10 wq ho hB hg hat
       have H10 := Aside0.mk (show Kd.R (Kd.int .u8) 5 wq W0.heap.size (fun k => W0.heap.size ≤ k) v10 b from ho)
       obtain ⟨A10, c10, rfl⟩ := Kd.R_slice H10.out
       have HBn := Aside0.mk hB
       have v0_ := (HBn.out.cell (p := ⟨q, 0, none⟩) HQL.out).trans y0
       have z0_ : ∀ o, (wq.alloc o).cell? ⟨q, 0, none⟩ = some SV := fun o => (World.cell?_alloc_lt _ _ _ (Nat.lt_of_lt_of_le HQL.out HBn.out.size)).trans v0_
       clear ho hB hg hat)
    | (refine Kd.S_append_step k51 (w0 := W0) tb ?hw (.tmp 5) (.tmp 12) 36 51 (.agg #[(.int .u64 0), (.int .u64 0), (.slice none 0 0)]) 40 rfl Tryd.underlying36 info51 rfl (by decide) (by omega) SV vs ⟨⟨lv, ix⟩, b⟩ [.int .u64 lv, .int .u64 ix, .slice A10 b.length c10] (fun _ => True) (fun k => W0.heap.size ≤ k) rfl rfl ?hp ?hok (fun _ _ => trivial) ?HO ?hB ?hbase ?aL ?_
       (case hw => simp [Region.wanted])
       (case hp => exact k51_mkM _ tb _ ⟨⟨lv, ix⟩, b⟩ (Kd.R_lower (by repeat (first | exact H10.out | (refine Kd.R_alloc ?_ _) | (refine Kd.R_drewN ?_ _) | (refine Kd.R_drew ?_))) (Nat.le_trans HTB.out HB.out.size)))
       (case hok => exact fun k hk => ⟨trivial, fun e => absurd (Kd.S_lt HS0.out k e.symm) (Nat.not_lt_of_le hk)⟩)
       (case HO => exact Kd.S_mono (Kd.S_step HS0.out (fun k hk _ => (show Below W0.heap.size W0 _ from (by repeat (first | exact HBn.out | exact Below.refl _ _ | (refine below_alloc ?_ _) | apply Below.drew | apply pw_below_drewN | apply below_drew))).block k hk)) (fun k hk => ⟨trivial, Nat.not_le_of_lt hk⟩))
       (case hB => exact (show Below W0.heap.size W0 _ from (by repeat (first | exact HBn.out | exact Below.refl _ _ | (refine below_alloc ?_ _) | apply Below.drew | apply pw_below_drewN | apply below_drew))).mono (Nat.le_trans HTB.out HB.out.size))
       (case hbase => exact Nat.le_trans (Nat.le_trans HTB.out HB.out.size) (below_size (show Below W0.heap.size W0 _ from (by repeat (first | exact HBn.out | exact Below.refl _ _ | (refine below_alloc ?_ _) | apply Below.drew | apply pw_below_drewN | apply below_drew)))))
       (case aL => have := HL.out; omega)
       intro v13 wq hS13 hB13 hg13 hat
       have HQ13 := Aside0.mk (show wq.heap[q]? = some (.cells #[SV] 36 (0, 0)) from by
         obtain ⟨hS, hH⟩ := (⟨hS13, hg13⟩ : _ ∧ _)
         exact (hH.block q (Nat.lt_of_lt_of_le HQL.out (below_size (show Below W0.heap.size W0 _ from (by repeat (first | exact HBn.out | exact Below.refl _ _ | (refine below_alloc ?_ _) | apply Below.drew | apply pw_below_drewN | apply below_drew))))) (fun e => blk_ne HQ0.out (Kd.S_typed HS0.out q e.symm).choose_spec (by decide) rfl)).trans (((show Below W0.heap.size W0 _ from (by repeat (first | exact HBn.out | exact Below.refl _ _ | (refine below_alloc ?_ _) | apply Below.drew | apply pw_below_drewN | apply below_drew))).block q HQL.out).trans HQ0.out))
       have HK13 := Aside0.mk (show ∀ k, k < W0.heap.size → some k ≠ SV.ownBlock → wq.heap[k]? = W0.heap[k]? from fun k hk hne => (hg13.block k (Nat.lt_of_lt_of_le hk (below_size (show Below W0.heap.size W0 _ from (by repeat (first | exact HBn.out | exact Below.refl _ _ | (refine below_alloc ?_ _) | apply Below.drew | apply pw_below_drewN | apply below_drew))))) hne).trans ((show Below W0.heap.size W0 _ from (by repeat (first | exact HBn.out | exact Below.refl _ _ | (refine below_alloc ?_ _) | apply Below.drew | apply pw_below_drewN | apply below_drew))).block k hk))
       have HS13 := Aside0.mk hS13
       have HB13 := Aside0.mk hB13
       have v0_ : wq.cell? ⟨q, 0, none⟩ = some SV := blk_cell HQ13.out 0
       obtain ⟨A13, c13, rfl⟩ := Kd.S_slice HS13.out
       have f0_ : wq.frozen? ⟨q, 0, none⟩ = false := blk_frozen HQ13.out 0
       clear hS13 hB13 hg13 hat)
    | fail)
  all_goals
    go_wp2
    go_end0
    exact ⟨rfl, seen_end HTB.out HB.out HS0.out HQ13.out HK13.out HB13.out (by have := HS13.out; rw [List.length_append] at this; exact this)⟩
end Go.Proofs.YtielnphmcaecdaaDoor.PAll
namespace Go.Proofs.YtielnphmcaecdaaDoor.Num
open Go.RowKit Go.Proofs.YtielnphmcaecdaaDoorW.PrintWords Go.Proofs.YtielnphmcaecdaaDoorW.PrintLast Go.Proofs.YtielnphmcaecdaaDoorW.PrintMore
theorem wf_u64 {a : Int} (h : (Lit.int .u64 a).wf = true) : ∃ n : Nat, a = n ∧ n < 18446744073709551616 := by
  have h1 : 0 ≤ a ∧ a ≤ 18446744073709551615 := by simpa [Lit.wf, IntKind.min, IntKind.max, IntKind.signed, IntKind.bits] using h
  exact ⟨a.toNat, by omega, by omega⟩
theorem u64w (x : Int) : IntKind.u64.wrap x = x % 18446744073709551616 := by simp [IntKind.wrap, IntKind.bits, IntKind.signed]
theorem u64n (n : Nat) : IntKind.u64.wrap (n : Int) = ((n % 18446744073709551616 : Nat) : Int) := by rw [u64w]; omega
theorem u64in {n : Nat} (h : n < 18446744073709551616) : IntKind.u64.wrap (n : Int) = (n : Int) := by rw [u64w]; omega
theorem w64 {n : Nat} (h : n < 9223372036854775808) : wrap64 (n : Int) = (n : Int) := by unfold wrap64; omega
theorem and64 (a b : Nat) (ha : a < 18446744073709551616) (hb : b < 18446744073709551616) : Go.bits .and .u64 (a : Int) (b : Int) = ((a &&& b : Nat) : Int) := u64_and_nat a b ha hb
theorem xor64 (a b : Nat) (ha : a < 18446744073709551616) (hb : b < 18446744073709551616) : Go.bits .xor .u64 (a : Int) (b : Int) = ((a ^^^ b : Nat) : Int) := u64_xor_nat a b ha hb
theorem shr64 (a b : Nat) : shr .u64 (a : Int) (b : Int) = ((a / 2 ^ min b 64 : Nat) : Int) := by
  show (a : Int) / 2 ^ min ((b : Int).toNat) 64 = _
  rw [Int.toNat_natCast, Int.natCast_ediv, Int.natCast_pow]
  rfl
theorem shl64 (a b : Nat) (hb : b ≤ 64) : shl .u64 (a : Int) (b : Int) = ((a * 2 ^ b % 18446744073709551616 : Nat) : Int) := by
  show IntKind.u64.wrap ((a : Int) * 2 ^ min ((b : Int).toNat) 64) = _
  rw [Int.toNat_natCast, Nat.min_eq_left hb, u64w, Int.natCast_emod, Int.natCast_mul, Int.natCast_pow]
  rfl
theorem u64sub {a b : Nat} (h : b ≤ a) (ha : a < 18446744073709551616) : IntKind.u64.wrap ((a : Int) - (b : Int)) = ((a - b : Nat) : Int) := by
  rw [← Int.natCast_sub h]; exact u64in (by omega)
theorem u64add {a b : Nat} (h : a + b < 18446744073709551616) : IntKind.u64.wrap ((a : Int) + (b : Int)) = ((a + b : Nat) : Int) := by
  rw [← Int.natCast_add]; exact u64in h
theorem pow_lt64 {k : Nat} (hk : k ≤ 63) : 2 ^ k < 18446744073709551616 :=
  Nat.lt_of_le_of_lt (Nat.pow_le_pow_right (by decide) hk) (by decide)
theorem shl_one {k : Nat} (hk : k ≤ 63) : shl .u64 1 (k : Int) = ((2 ^ k : Nat) : Int) := by
  have := shl64 1 k (by omega)
  rw [Nat.one_mul, Nat.mod_eq_of_lt (pow_lt64 hk)] at this
  exact this
end Go.Proofs.YtielnphmcaecdaaDoor.Num
namespace Go.Proofs.YtielnphmcaecdaaDoor.Mth
def blen (n : Nat) : Nat := if n = 0 then 0 else blen (n / 2) + 1
def ones (n : Nat) : Nat := if n = 0 then 0 else n % 2 + ones (n / 2)
theorem blen_zero : blen 0 = 0 := by rw [blen, if_pos rfl]
theorem blen_pos {n : Nat} (h : 0 < n) : blen n = blen (n / 2) + 1 := by rw [blen, if_neg (by omega)]
theorem ones_zero : ones 0 = 0 := by rw [ones, if_pos rfl]
theorem ones_half (n : Nat) : ones n = n % 2 + ones (n / 2) := by
  by_cases h : n = 0
  · subst h; simp [ones_zero]
  · rw [ones, if_neg h]
theorem lt_blen (n : Nat) : n < 2 ^ blen n := by
  induction n using Nat.strongRecOn with
  | _ n ih =>
  by_cases h : n = 0
  · subst h; simp [blen_zero]
  · have := ih (n / 2) (by omega)
    rw [blen_pos (by omega), Nat.pow_succ]; omega
theorem blen_le {n m : Nat} : blen n ≤ m ↔ n < 2 ^ m := by
  induction m generalizing n with
  | zero =>
    by_cases h : n = 0
    · subst h; simp [blen_zero]
    · rw [blen_pos (by omega)]; simp; omega
  | succ m ih =>
    by_cases h : n = 0
    · subst h; simp [blen_zero, Nat.pow_pos]
    · rw [blen_pos (by omega), Nat.pow_succ]
      have := ih (n := n / 2)
      omega
theorem xor_lt_iff (a b m : Nat) : a ^^^ b < 2 ^ m ↔ a / 2 ^ m = b / 2 ^ m := by
  constructor
  · intro h
    have h1 := Nat.xor_div_two_pow (a := a) (b := b) (n := m)
    rw [Nat.div_eq_of_lt h] at h1
    have h2 : (a / 2 ^ m ^^^ b / 2 ^ m) ^^^ b / 2 ^ m = 0 ^^^ b / 2 ^ m := by rw [← h1]
    rwa [Nat.xor_assoc, Nat.xor_self, Nat.xor_zero, Nat.zero_xor] at h2
  · intro h
    have h1 := Nat.xor_div_two_pow (a := a) (b := b) (n := m)
    rw [h, Nat.xor_self] at h1
    exact (Nat.div_eq_zero_iff_lt (Nat.two_pow_pos m)).1 h1
def fork (i n : Nat) : Nat := blen (i ^^^ n)
theorem fork_le {i n m : Nat} : fork i n ≤ m ↔ i / 2 ^ m = n / 2 ^ m := by rw [fork, blen_le, xor_lt_iff]
theorem fork_eq (i n : Nat) : i / 2 ^ fork i n = n / 2 ^ fork i n := fork_le.1 (Nat.le_refl _)
theorem blen_lt64 {n : Nat} (h : n < 18446744073709551616) : blen n ≤ 64 := blen_le.2 h
theorem ones_le (n k : Nat) (h : n < 2 ^ k) : ones n ≤ k := by
  induction k generalizing n with
  | zero => have : n = 0 := by simpa using h
            subst this; simp [ones_zero]
  | succ k ih =>
    have := ih (n / 2) (by rw [Nat.pow_succ] at h; omega)
    rw [ones_half]; omega
theorem and_split (x a b : Nat) (ha : a < 256) : x &&& (a + 256 * b) = (x % 256 &&& a) + 256 * (x / 256 &&& b) := by
  have h1 := Nat.and_div_two_pow (a := x) (b := a + 256 * b) (n := 8)
  have h2 := Nat.and_mod_two_pow (a := x) (b := a + 256 * b) (n := 8)
  rw [show (2 : Nat) ^ 8 = 256 from rfl] at h1 h2
  rw [show (a + 256 * b) / 256 = b by omega] at h1
  rw [show (a + 256 * b) % 256 = a by omega] at h2
  omega
def msk (v : Nat) : Nat → Nat
  | 0 => 0
  | k + 1 => v + 256 * msk v k
def st1 (k x : Nat) : Nat := (x / 2 &&& msk 85 k) + (x &&& msk 85 k)
def st2 (k x : Nat) : Nat := (x / 4 &&& msk 51 k) + (x &&& msk 51 k)
def st3 (k x : Nat) : Nat := (x / 16 + x) &&& msk 15 k
theorem byte1 : ∀ b < 2, ∀ c < 256, (c / 2 + 128 * b) &&& 85 = c / 2 &&& 85 := by decide +kernel
theorem byte2 : ∀ b < 4, ∀ c < 256, (c / 4 + 64 * b) &&& 51 = c / 4 &&& 51 := by decide +kernel
def by1 (c : Nat) : Nat := (c / 2 &&& 85) + (c &&& 85)
def by2 (c : Nat) : Nat := (c / 4 &&& 51) + (c &&& 51)
theorem byte3 : ∀ c < 256, by1 c < 256 ∧ by2 (by1 c) ≤ 68 ∧ by2 (by1 c) % 16 ≤ 4 ∧ (by2 (by1 c) / 16 + by2 (by1 c)) % 16 = ones c ∧ ones c ≤ 8 := by decide +kernel
theorem st1_step (k x : Nat) : st1 (k + 1) x = by1 (x % 256) + 256 * st1 k (x / 256) := by
  have h := byte1 (x / 256 % 2) (by omega) (x % 256) (by omega)
  unfold st1 by1
  rw [show msk 85 (k + 1) = 85 + 256 * msk 85 k from rfl]
  rw [and_split _ _ _ (by omega), and_split _ _ _ (by omega), show x / 2 % 256 = x % 256 / 2 + 128 * (x / 256 % 2) by omega, h, show x / 2 / 256 = x / 256 / 2 by omega]
  omega
theorem st2_step (k x : Nat) : st2 (k + 1) x = by2 (x % 256) + 256 * st2 k (x / 256) := by
  have h := byte2 (x / 256 % 4) (by omega) (x % 256) (by omega)
  unfold st2 by2
  rw [show msk 51 (k + 1) = 51 + 256 * msk 51 k from rfl]
  rw [and_split _ _ _ (by omega), and_split _ _ _ (by omega), show x / 4 % 256 = x % 256 / 4 + 64 * (x / 256 % 4) by omega, h, show x / 4 / 256 = x / 256 / 4 by omega]
  omega
theorem ones_byte (k x : Nat) : ones (x % 2 ^ (k + 1)) = x % 2 + ones (x / 2 % 2 ^ k) := by
  rw [ones_half, Nat.pow_succ, Nat.mul_comm, Nat.mod_mul]
  have : 2 * (x / 2 % 2 ^ k) + x % 2 = x % 2 + 2 * (x / 2 % 2 ^ k) := by omega
  rw [show (x % 2 + 2 * (x / 2 % 2 ^ k)) / 2 = x / 2 % 2 ^ k by omega, show (x % 2 + 2 * (x / 2 % 2 ^ k)) % 2 = x % 2 by omega]
theorem ones_split (k x : Nat) : ones x = ones (x % 2 ^ k) + ones (x / 2 ^ k) := by
  induction k generalizing x with
  | zero => simp [Nat.mod_one, ones_zero]
  | succ k ih =>
    rw [ones_byte, ones_half x, ih (x / 2), Nat.div_div_eq_div_mul, Nat.pow_succ, Nat.mul_comm 2]; omega
def cnt : Nat → Nat → Nat
  | 0, _ => 0
  | k + 1, x => ones (x % 256) + 256 * cnt k (x / 256)
theorem st2_low (k x : Nat) : st2 k (st1 k x) % 16 ≤ 4 := by
  cases k with
  | zero => simp [st2, st1, msk]
  | succ k =>
    have h := byte3 (x % 256) (by omega)
    rw [st1_step, st2_step, show (by1 (x % 256) + 256 * st1 k (x / 256)) % 256 = by1 (x % 256) by omega]
    omega
theorem st3_all (k x : Nat) : st3 k (st2 k (st1 k x)) = cnt k x := by
  induction k generalizing x with
  | zero => simp [st3, msk, cnt]
  | succ k ih =>
    have h := byte3 (x % 256) (by omega)
    have hl := st2_low k (x / 256)
    rw [st1_step, st2_step, show (by1 (x % 256) + 256 * st1 k (x / 256)) % 256 = by1 (x % 256) by omega, show (by1 (x % 256) + 256 * st1 k (x / 256)) / 256 = st1 k (x / 256) by omega, cnt, ← ih (x / 256)]
    generalize hy : st2 k (st1 k (x / 256)) = y at *
    generalize hc : by2 (by1 (x % 256)) = c at *
    unfold st3
    rw [show msk 15 (k + 1) = 15 + 256 * msk 15 k from rfl]
    have e1 : ((c + 256 * y) / 16 + (c + 256 * y)) / 256 = y / 16 + y := by omega
    have e2 : ((c + 256 * y) / 16 + (c + 256 * y)) % 256 = c / 16 + c + 16 * (y % 16) := by omega
    rw [and_split _ _ _ (by omega), e1, e2]
    have e3 : (c / 16 + c + 16 * (y % 16)) &&& 15 = (c / 16 + c) % 16 := by
      have := Nat.and_two_pow_sub_one_eq_mod (c / 16 + c + 16 * (y % 16)) 4
      rw [show (2 : Nat) ^ 4 - 1 = 15 from rfl] at this
      rw [this]; omega
    rw [e3]; omega
theorem div_of {a m : Nat} (r : Nat) (h : a < m) : (a + m * r) / m = r := by rw [Nat.add_mul_div_left _ _ (by omega), Nat.div_eq_of_lt h, Nat.zero_add]
theorem lin1 (c0 c1 c2 c3 c4 c5 c6 c7 : Nat) : (c0 + 256 * (c1 + 256 * (c2 + 256 * (c3 + 256 * (c4 + 256 * (c5 + 256 * (c6 + 256 * (c7 + 256 * 0)))))))) + (c1 + 256 * (c2 + 256 * (c3 + 256 * (c4 + 256 * (c5 + 256 * (c6 + 256 * (c7 + 256 * 0)))))))
    = ((c0 + c1) + 256 * (c1 + c2)) + 65536 * ((c2 + c3) + 256 * (c3 + c4) + 65536 * ((c4 + c5) + 256 * (c5 + c6) + 65536 * ((c6 + c7) + 256 * c7))) := by omega
theorem lin2 (c0 c1 c2 c3 c4 c5 c6 c7 : Nat) : (((c0 + c1) + 256 * (c1 + c2)) + 65536 * ((c2 + c3) + 256 * (c3 + c4) + 65536 * ((c4 + c5) + 256 * (c5 + c6) + 65536 * ((c6 + c7) + 256 * c7)))) + ((c2 + c3) + 256 * (c3 + c4) + 65536 * ((c4 + c5) + 256 * (c5 + c6) + 65536 * ((c6 + c7) + 256 * c7)))
    = ((c0 + c1 + c2 + c3) + 256 * (c1 + c2 + c3 + c4) + 65536 * (c2 + c3 + c4 + c5) + 16777216 * (c3 + c4 + c5 + c6)) + 4294967296 * ((c4 + c5 + c6 + c7) + 256 * (c5 + c6 + c7) + 65536 * (c6 + c7) + 16777216 * c7) := by omega
theorem lin3 (c0 c1 c2 c3 c4 c5 c6 c7 : Nat) : (((c0 + c1 + c2 + c3) + 256 * (c1 + c2 + c3 + c4) + 65536 * (c2 + c3 + c4 + c5) + 16777216 * (c3 + c4 + c5 + c6)) + 4294967296 * ((c4 + c5 + c6 + c7) + 256 * (c5 + c6 + c7) + 65536 * (c6 + c7) + 16777216 * c7)) + ((c4 + c5 + c6 + c7) + 256 * (c5 + c6 + c7) + 65536 * (c6 + c7) + 16777216 * c7)
    = (c0 + (c1 + (c2 + (c3 + (c4 + (c5 + (c6 + c7))))))) + 128 * (2 * (c1 + c2 + c3 + c4) + 512 * (c2 + c3 + c4 + c5) + 131072 * (c3 + c4 + c5 + c6) + 33554432 * ((c4 + c5 + c6 + c7) + 256 * (c5 + c6 + c7) + 65536 * (c6 + c7) + 16777216 * c7) + 2 * (c5 + c6 + c7) + 512 * (c6 + c7) + 131072 * c7) := by omega
theorem spread (c0 c1 c2 c3 c4 c5 c6 c7 : Nat) (b0 : c0 ≤ 8) (b1 : c1 ≤ 8) (b2 : c2 ≤ 8) (b3 : c3 ≤ 8) (b4 : c4 ≤ 8) (b5 : c5 ≤ 8) (b6 : c6 ≤ 8) (b7 : c7 ≤ 8) :
    let y := c0 + 256 * (c1 + 256 * (c2 + 256 * (c3 + 256 * (c4 + 256 * (c5 + 256 * (c6 + 256 * (c7 + 256 * 0)))))))
    let y1 := y + y / 256; let y2 := y1 + y1 / 65536; let y3 := y2 + y2 / 4294967296
    y3 % 128 = c0 + (c1 + (c2 + (c3 + (c4 + (c5 + (c6 + c7)))))) ∧ y3 < 9223372036854775808 ∧ y2 < 18446744073709551616 ∧ y1 < 18446744073709551616 ∧ y < 18446744073709551616 := by
  dsimp only
  rw [div_of (a := c0) (m := 256) _ (by omega), lin1, div_of (m := 65536) _ (by omega), lin2, div_of (m := 4294967296) _ (by omega), lin3, Nat.add_mul_mod_self_left]
  refine ⟨Nat.mod_eq_of_lt (by omega), by omega, by omega, by omega, by omega⟩
theorem swar (x : Nat) (hx : x < 18446744073709551616) : let y := cnt 8 x; let y1 := y + y / 256; let y2 := y1 + y1 / 65536; let y3 := y2 + y2 / 4294967296; y3 % 128 = ones x ∧ y3 < 9223372036854775808 ∧ y2 < 18446744073709551616 ∧ y1 < 18446744073709551616 ∧ y < 18446744073709551616 := by
  have s0 := ones_split 8 x
  have s1 := ones_split 8 (x / 256)
  have s2 := ones_split 8 (x / 256 / 256)
  have s3 := ones_split 8 (x / 256 / 256 / 256)
  have s4 := ones_split 8 (x / 256 / 256 / 256 / 256)
  have s5 := ones_split 8 (x / 256 / 256 / 256 / 256 / 256)
  have s6 := ones_split 8 (x / 256 / 256 / 256 / 256 / 256 / 256)
  rw [show (2 : Nat) ^ 8 = 256 from rfl] at s0 s1 s2 s3 s4 s5 s6
  have e7 : x / 256 / 256 / 256 / 256 / 256 / 256 / 256 % 256 = x / 256 / 256 / 256 / 256 / 256 / 256 / 256 := by omega
  have b0 := (byte3 (x % 256) (by omega)).2.2.2.2
  have b1 := (byte3 (x / 256 % 256) (by omega)).2.2.2.2
  have b2 := (byte3 (x / 256 / 256 % 256) (by omega)).2.2.2.2
  have b3 := (byte3 (x / 256 / 256 / 256 % 256) (by omega)).2.2.2.2
  have b4 := (byte3 (x / 256 / 256 / 256 / 256 % 256) (by omega)).2.2.2.2
  have b5 := (byte3 (x / 256 / 256 / 256 / 256 / 256 % 256) (by omega)).2.2.2.2
  have b6 := (byte3 (x / 256 / 256 / 256 / 256 / 256 / 256 % 256) (by omega)).2.2.2.2
  have b7 := (byte3 (x / 256 / 256 / 256 / 256 / 256 / 256 / 256 % 256) (by omega)).2.2.2.2
  simp only [cnt]
  rw [e7] at b7 ⊢
  generalize ones (x % 256) = c0 at *
  generalize ones (x / 256 % 256) = c1 at *
  generalize ones (x / 256 / 256 % 256) = c2 at *
  generalize ones (x / 256 / 256 / 256 % 256) = c3 at *
  generalize ones (x / 256 / 256 / 256 / 256 % 256) = c4 at *
  generalize ones (x / 256 / 256 / 256 / 256 / 256 % 256) = c5 at *
  generalize ones (x / 256 / 256 / 256 / 256 / 256 / 256 % 256) = c6 at *
  generalize ones (x / 256 / 256 / 256 / 256 / 256 / 256 / 256) = c7 at *
  rw [s0, s1, s2, s3, s4, s5, s6]
  clear s0 s1 s2 s3 s4 s5 s6 e7 hx
  exact spread c0 c1 c2 c3 c4 c5 c6 c7 b0 b1 b2 b3 b4 b5 b6 b7
def psplit (n : Nat) : Nat := 2 ^ (blen (n - 1) - 1)
theorem blen_unique {n j : Nat} (h1 : 2 ^ j ≤ n) (h2 : n < 2 ^ (j + 1)) : blen n = j + 1 := by
  have h3 := blen_le.2 h2
  have h4 : ¬ blen n ≤ j := fun h => by have := blen_le.1 h; omega
  omega
theorem pow_blen_le {n : Nat} (h : 0 < n) : 2 ^ (blen n - 1) ≤ n := by
  have h1 : ¬ blen n ≤ blen n - 1 := by have := blen_pos h; omega
  rw [blen_le] at h1; omega
theorem psplit_lt {n : Nat} (h : 2 ≤ n) : psplit n < n := by
  have := pow_blen_le (n := n - 1) (by omega)
  unfold psplit; omega
theorem psplit_pos (n : Nat) : 0 < psplit n := Nat.two_pow_pos _
theorem le_psplit {n : Nat} (h : 2 ≤ n) : n ≤ 2 * psplit n := by
  have h1 := lt_blen (n - 1)
  have h2 := blen_pos (n := n - 1) (by omega)
  unfold psplit
  rw [show blen (n - 1) = blen (n - 1) - 1 + 1 by omega, Nat.pow_succ] at h1
  omega
theorem psplit_unique {n j : Nat} (h1 : 2 ^ j < n) (h2 : n ≤ 2 * 2 ^ j) : psplit n = 2 ^ j := by
  unfold psplit
  rw [blen_unique (j := j) (by omega) (by rw [Nat.pow_succ]; omega)]; rfl
theorem psplit_pow (k : Nat) : psplit (2 ^ (k + 1)) = 2 ^ k := psplit_unique (by rw [Nat.pow_succ]; have := Nat.two_pow_pos k; omega) (by rw [Nat.pow_succ]; omega)
end Go.Proofs.YtielnphmcaecdaaDoor.Mth
namespace Go.Proofs.YtielnphmcaecdaaDoor.PAll
open Go.RowKit Go.Proofs.YtielnphmcaecdaaDoor.Mth Go.Proofs.YtielnphmcaecdaaDoorW.PrintWords Go.Proofs.YtielnphmcaecdaaDoorW.PrintLast Go.Proofs.YtielnphmcaecdaaDoorW.PrintMore
set_option linter.unusedVariables false
theorem bit_is (n i : Nat) (hn : n < 18446744073709551616) : Go.bits .and .u64 ((n : Int) / 2 ^ min i 64) 1 = ((n / 2 ^ i % 2 : Nat) : Int) := by
  have h1 : (n : Int) / 2 ^ min i 64 = ((n / 2 ^ i : Nat) : Int) := by
    by_cases h : i ≤ 64
    · rw [Nat.min_eq_left h, Int.natCast_ediv, Int.natCast_pow]; rfl
    · rw [Nat.min_eq_right (by omega)]
      have h2 : 2 ^ 64 ≤ 2 ^ i := Nat.pow_le_pow_right (by omega) (by omega)
      rw [Nat.div_eq_of_lt (show n < 2 ^ i by omega)]
      have : (n : Int) < 2 ^ 64 := by omega
      omega
  have h3 : n / 2 ^ i < 18446744073709551616 := Nat.lt_of_le_of_lt (Nat.div_le_self _ _) hn
  have h4 := u64_and_nat (n / 2 ^ i) 1 h3 (by omega)
  rw [Nat.and_one_is_mod] at h4
  rw [h1]; exact h4
def Mid (n ℓ : Nat) (rows : List (List SH)) : Prop := ∀ (i : Nat) (rs : List SH), rows[i]? = some rs → rs.length = n / 2 ^ i + (if i < ℓ then 1 else 0)
theorem mid_set {n ℓ : Nat} {rows : List (List SH)} {rs rs' : List SH} (h : Mid n ℓ rows) (hr : rows[ℓ]? = some rs) (hl : rs'.length = rs.length + 1) : Mid n (ℓ + 1) (rows.set ℓ rs') := by
  intro i x hx
  have h0 := h ℓ rs hr
  rw [if_neg (Nat.lt_irrefl ℓ)] at h0
  by_cases e : i = ℓ
  · subst e
    rw [List.getElem?_set_self (List.getElem?_eq_some_iff.1 hr).1] at hx
    obtain rfl := Option.some.inj hx
    rw [if_pos (by omega)]; omega
  · rw [List.getElem?_set_ne (by omega)] at hx
    rw [h i x hx]
    by_cases e2 : i < ℓ
    · rw [if_pos e2, if_pos (by omega)]
    · rw [if_neg e2, if_neg (by omega)]
theorem box_rows {w : World} {b : Nat} {s : SH} (hb : w.heap[b]? = some (.cells #[shE s] 27 (0, 0))) : ReadsRow (fun (x : SH) (cs : List Value) => cs = [shE x]) kSH.sz w (some ⟨b, 0, none⟩) 1 [s] := by
  refine ⟨rfl, by decide, fun _ => ⟨_, rfl, fun j p hj => ?_⟩⟩
  have e : j = 0 := by have := (List.getElem?_eq_some_iff.1 hj).1; simp at this; exact this
  subst e
  have e2 : s = p := by simpa using hj
  subst e2
  refine ⟨[shE s], rfl, rfl, fun i u hu => ?_⟩
  have e3 : i = 0 := by have := (List.getElem?_eq_some_iff.1 hu).1; simp at this; exact this
  subst e3
  have e4 : shE s = u := by simpa using hu
  subst e4
  exact blk_cell hb 0
theorem grown_from {W W' w5 : World} {row : Option Nat} (hb : Below W.heap.size W W') (hg : W'.grownBy w5 row) : W.grownBy w5 row :=
  ⟨hg.os.trans hb.os, hg.tape.trans hb.tape, hg.output.trans hb.output, Nat.le_trans hb.size hg.size, fun k hk hne => (hg.block k (Nat.lt_of_lt_of_le hk hb.size) hne).trans (hb.block k hk)⟩
theorem hat_from {W W' : World} {v v5 : Value} (hb : Below W.heap.size W W') (h : v5.ownBlock = v.ownBlock ∨ ∃ b, v5.ownBlock = some b ∧ W'.heap.size ≤ b) : v5.ownBlock = v.ownBlock ∨ ∃ b, v5.ownBlock = some b ∧ W.heap.size ≤ b := by
  rcases h with h | ⟨b, h1, h2⟩
  · exact .inl h
  · exact .inr ⟨b, h1, Nat.le_trans hb.size h2⟩
theorem mid_at {n ℓ : Nat} {rows : List (List SH)} {rs : List SH} (h : Mid n ℓ rows) (hr : rows[ℓ]? = some rs) : rs.length = n / 2 ^ ℓ := by
  have h0 := h ℓ rs hr
  rw [if_neg (Nat.lt_irrefl ℓ)] at h0
  exact h0
theorem room_rs {n ℓ : Nat} {rows : List (List SH)} {rs : List SH} (h : Mid n ℓ rows) (hr : rows[ℓ]? = some rs) (hn : n < 1099511627776) : (rs.length + 1) * 24 ≤ 140737488355328 := by
  have h0 := h ℓ rs hr
  rw [if_neg (Nat.lt_irrefl ℓ)] at h0
  have := Nat.div_le_self n (2 ^ ℓ)
  omega
theorem mid_more {n ℓ : Nat} {rows : List (List SH)} {hs : List SH} (h : Mid n ℓ rows) (hl : rows.length = hs.length) (hb : blen n ≤ hs.length) (he : hs.length ≤ ℓ) (hs' : ℓ ≤ hs.length) : Mid n ℓ (rows ++ [[]]) := by
  intro i rs hi
  by_cases e : i < rows.length
  · rw [List.getElem?_append_left e] at hi
    exact h i rs hi
  · have e2 : i = rows.length := by
      have := (List.getElem?_eq_some_iff.1 hi).1
      rw [List.length_append, List.length_singleton] at this; omega
    subst e2
    rw [List.getElem?_append_right (Nat.le_refl _), Nat.sub_self] at hi
    obtain rfl := Option.some.inj hi
    rw [if_neg (by omega), Nat.div_eq_of_lt (blen_le.1 (by omega))]; rfl
theorem carry {n ℓ : Nat} (h : ∀ i, i < ℓ → n / 2 ^ i % 2 = 1) : (n + 1) / 2 ^ ℓ = n / 2 ^ ℓ + 1 := by
  induction ℓ with
  | zero => rw [Nat.pow_zero, Nat.div_one, Nat.div_one]
  | succ ℓ ih =>
    have h1 := ih (fun i hi => h i (by omega))
    have h2 := h ℓ (by omega)
    rw [Nat.pow_succ, ← Nat.div_div_eq_div_mul, ← Nat.div_div_eq_div_mul, h1]; omega
theorem carry_stop {n ℓ i : Nat} (h : ∀ i, i < ℓ → n / 2 ^ i % 2 = 1) (h0 : ¬ n / 2 ^ ℓ % 2 = 1) (hi : ℓ < i) : (n + 1) / 2 ^ i = n / 2 ^ i := by
  obtain ⟨d, rfl⟩ : ∃ d, i = ℓ + 1 + d := ⟨i - ℓ - 1, by omega⟩
  rw [Nat.pow_add, ← Nat.div_div_eq_div_mul, ← Nat.div_div_eq_div_mul n, Nat.pow_succ, ← Nat.div_div_eq_div_mul, ← Nat.div_div_eq_div_mul n, carry h]
  congr 1; omega
theorem blen_more {n ℓ : Nat} (h : ∀ i, i < ℓ → n / 2 ^ i % 2 = 1) (h0 : ¬ n / 2 ^ ℓ % 2 = 1) (hl : ℓ < blen n) : blen (n + 1) = blen n := by
  have a : blen (n + 1) ≤ blen n := by
    rw [blen_le]
    have h1 := carry_stop h h0 hl
    rw [Nat.div_eq_of_lt (lt_blen n)] at h1
    exact (Nat.div_eq_zero_iff_lt (Nat.two_pow_pos _)).1 h1
  have b : blen n ≤ blen (n + 1) := blen_le.2 (by have := lt_blen (n + 1); omega)
  omega
theorem blen_new {n ℓ : Nat} (h : ∀ i, i < ℓ → n / 2 ^ i % 2 = 1) (hl : ℓ = blen n) : blen (n + 1) = blen n + 1 := by
  have h1 := carry h
  rw [hl, Nat.div_eq_of_lt (lt_blen n)] at h1
  have hp := Nat.two_pow_pos (blen n)
  have h2 := Nat.div_mul_le_self (n + 1) (2 ^ blen n)
  have h3 := lt_blen n
  exact blen_unique (by rw [h1] at h2; omega) (by rw [Nat.pow_succ]; omega)
theorem mid_next {n ℓ : Nat} {rows : List (List SH)} (h : Mid n (ℓ + 1) rows) (ho : ∀ i, i < ℓ → n / 2 ^ i % 2 = 1) (h0 : ¬ n / 2 ^ ℓ % 2 = 1) : Mid (n + 1) 0 rows := by
  intro i rs hi
  rw [h i rs hi, if_neg (show ¬ i < 0 by omega), Nat.add_zero]
  by_cases e : i < ℓ + 1
  · rw [if_pos e, carry (fun j hj => ho j (by omega))]
  · rw [if_neg e, carry_stop ho h0 (by omega)]
def Grew (tb base g : Nat) (hv : Value) (m : Int) (n : Nat) (val : Nat → Nat → List Int) (w w' : World) : Prop :=
  ∃ H hs rows, TreeAt w' tb base g hv m H hs rows val ∧ hs.length = blen n ∧ Mid n 0 rows ∧ Frm base g w w' ∧ Pres5 w w'
set_option maxHeartbeats 16000000 in
set_option maxRecDepth 100000 in
theorem treeAppendImpl.calls (k : Nat) (a0 a1 a2 a3 a4 a5 : Int) (tb base g : Nat) (nI : Int) (n : Nat) (hnI : nI = (n : Int)) (hn : n < 1099511627776) (H : SH) (hs : List SH) (rows : List (List SH)) (val : Nat → Nat → List Int) (A : Option Addr) (nn c : Nat) (w : World) (htb : tb ≤ base) (hbase : base ≤ w.heap.size)
    (T : TreeAt w tb base g (.iface 82 (toyV a0 a1 a2 a3 a4 a5)) nI H hs rows val) (hlen : hs.length = blen n) (hmid : Mid n 0 rows) (hX : Txt tb w (A, nn, c) (val 0 n))
    (hval : ∀ i, (∀ j, j ≤ i → n / 2 ^ j % 2 = 1) → impl_toy_HashChildren.f k a0 a1 a2 a3 a4 a5 (val i (n / 2 ^ i - 1)) (val i (n / 2 ^ i)) = some (val (i + 1) (n / 2 ^ (i + 1)))) :
    Calls Tryd.prog 82 #[.pointer (some ⟨g, 0, none⟩), .slice A nn c] w fun e w' => e = .returned (.tuple #[]) ∧ Grew tb base g (.iface 82 (toyV a0 a1 a2 a3 a4 a5)) (nI + 1) (n + 1) val w w' := by
  have HN := Aside0.mk hnI
  have HNL := Aside0.mk hn
  have HT := Aside0.mk T
  have HL := Aside0.mk hlen
  have HM := Aside0.mk hmid
  have HX := Aside0.mk hX
  have HV := Aside0.mk hval
  have HBS := Aside0.mk hbase
  have HTB := Aside0.mk htb
  clear hnI hn hlen hmid hX hval hbase htb
  have hm := methHC a0 a1 a2 a3 a4 a5
  go_enter Tryd.func82, Tryd.ntmps82
  go_wp2
  try simp only [Act.put, List.setIfInBounds_toArray, List.set_cons_zero, List.set_cons_succ]
  go_loopg [1, 4] (blen n) (fun kq v1 v4 w' => ∃ (ℓ : Nat) (s : SH) (H : SH) (hs : List SH) (rows : List (List SH)), v1 = .slice s.1 s.2.1 s.2.2 ∧ v4 = .int .i64 (ℓ : Int) ∧ Aside0 (ℓ + kq = blen n) ∧ Aside0 (TreeAt w' tb base g (.iface 82 (toyV a0 a1 a2 a3 a4 a5)) nI H hs rows val) ∧ Aside0 (hs.length = blen n) ∧ Aside0 (Mid n ℓ rows) ∧ Aside0 (Txt tb w' s (val ℓ (n / 2 ^ ℓ))) ∧ Aside0 (∀ i, i < ℓ → n / 2 ^ i % 2 = 1) ∧ Aside0 (base ≤ w'.heap.size) ∧ Aside0 (Frm base g w w') ∧ Aside0 (Pres5 w w'))
  case atStart => exact ⟨0, (A, nn, c), H, hs, rows, rfl, rfl, ⟨by omega⟩, HT, HL, HM, ⟨by rw [Nat.pow_zero, Nat.div_one]; exact HX.out⟩, ⟨fun i hi => absurd hi (by omega)⟩, HBS, ⟨Frm.refl _ _ _⟩, ⟨Pres5.refl _⟩⟩
  case round =>
    clear HT HL HM HX HBS T
    obtain ⟨ℓ, ⟨A1, n1, c1⟩, H, hs, rows, rfl, rfl, HI, HT, HL, HM, HX, HO, HBS, HB, HP⟩ := hrel
    dsimp only
    by_cases hbit : n / 2 ^ ℓ % 2 = 1
    case pos =>
      cases gk with
      | zero =>
        have e := HI.out
        rw [Nat.add_zero] at e
        have := lt_blen n
        rw [e, Nat.div_eq_of_lt this] at hbit
        omega
      | succ k1 =>
        obtain ⟨b1, hb1⟩ : ∃ b1, b1 = val ℓ (n / 2 ^ ℓ) := ⟨_, rfl⟩
        rw [← hb1] at HX
        obtain ⟨rfl, hx2, hx3⟩ := HX.out.read
        have hlt : ℓ < hs.length := by
          rw [HL.out]
          apply Nat.lt_of_not_le
          intro h
          rw [Nat.div_eq_of_lt (blen_le.1 h)] at hbit
          omega
        have hT := HT.out
        obtain ⟨gH, cH, rfl, hgH⟩ := kSH_form hT.outer (by omega)
        obtain ⟨t0, t1, t2⟩ := hT.c0
        obtain ⟨h, hh⟩ : ∃ h, hs[ℓ]? = some h := ⟨_, List.getElem?_eq_getElem hlt⟩
        obtain ⟨x1, f1⟩ := kSH_cell hT.outer hh
        obtain ⟨rs, hrs, hRow⟩ := hT.row ℓ h hh
        have hrl := HM.out ℓ rs hrs
        rw [if_neg (Nat.lt_irrefl ℓ), Nat.add_zero] at hrl
        obtain ⟨gr, cr, rfl, hgr⟩ := kSH_form hRow (by omega)
        replace t2 : World.cell? _ _ = some (.slice (some ⟨gH, 0, none⟩) hs.length cH) := t2
        replace x1 : World.cell? _ _ = some (.slice (some ⟨gr, 0, none⟩) rs.length cr) := x1
        have b9 : (Go.bits .and .u64 (nI / 2 ^ min ℓ 64) 1 == 1) = true := by
          rw [HN.out, bit_is n ℓ (by have := HNL.out; omega), hbit]; rfl
        have hL := HL.out
        have hNL := HNL.out
        have hlb : blen n ≤ 40 := blen_le.2 hNL
        have c0 : decide ((ℓ : Int) < 0) = false := decide_eq_false (by omega)
        have d0 : 0 ≤ (ℓ : Int) := by omega
        have d1 : (ℓ : Int) < (hs.length : Int) := by omega
        have c2 : decide ((ℓ : Int) < (hs.length : Int)) = true := decide_eq_true d1
        have c3 : decide (ℓ < hs.length) = true := decide_eq_true hlt
        have HROW := Aside0.mk hRow
        have HHH := Aside0.mk hh
        have HRS := Aside0.mk hrs
        have HRL := Aside0.mk hrl
        have HBIT := Aside0.mk hbit
        have HX2 := Aside0.mk hx2
        have HX3 := Aside0.mk hx3
        have HB1 := Aside0.mk hb1
        obtain ⟨m, hm2⟩ : ∃ m, rs.length = m + 1 := ⟨rs.length - 1, by omega⟩
        obtain ⟨⟨A6, n6, c6⟩, hy⟩ : ∃ y, rs[m]? = some y := ⟨_, List.getElem?_eq_getElem (by omega)⟩
        have hty := hT.txt ℓ m rs _ hrs hy
        have em : m = n / 2 ^ ℓ - 1 := by omega
        have hcall := HV.out ℓ (fun j hj => by
          rcases Nat.lt_or_eq_of_le hj with h | h
          · exact HO.out j h
          · subst h; exact hbit)
        rw [← em, ← hb1] at hcall
        obtain ⟨b6, hb6⟩ : ∃ b6, b6 = val ℓ m := ⟨_, rfl⟩
        rw [← hb6] at hty hcall
        obtain ⟨rfl, hy2, hy3⟩ := hty.read
        have HY := Aside0.mk hy
        have HTY := Aside0.mk hty
        have HM2 := Aside0.mk hm2
        have HC := Aside0.mk hcall
        clear hb1 hb6 hy hty hy2 hy3 hm2 em hcall
        clear hT hRow hh hrs hrl hbit hx2 hx3 hgH hgr hL hNL hlb hlt
        go_wp2_with (first
          | ((with_reducible refine gate_builtin (b := .append) (xs := #[.tmp 22, .tmp 24]) rfl ?_); at_builtin
             refine Kd.R_append kSH (w0 := wr) base rfl (.tmp 22) (.tmp 24) 25 27 (.slice none 0 0) 24 rfl Tryd.underlying25 info27 rfl (by decide) (by omega) (.slice (some ⟨gr, 0, none⟩) rs.length cr) rs (A1, b1.length, c1) [.slice A1 b1.length c1] (fun _ => True) (fun _ => False) rfl rfl ?aP (fun _ h => h.elim) ?aF ?aO ?aB ?aS ?aL ?_
             (case aP => rfl)
             (case aF => exact fun _ _ => trivial)
             (case aO => exact HROW.out)
             (case aB => exact Below.refl _ _)
             (case aS => exact HBS.out)
             (case aL => have := HRL.out; have := Nat.div_le_self n (2 ^ ℓ); have := HNL.out; omega)
             intro v1 w1 hR1 hB1 hg1 hat1
             obtain ⟨g5, c5, n5, hv, hn5⟩ : ∃ g5 c5 n5, v1 = .slice (some ⟨g5, 0, none⟩) n5 c5 ∧ n5 = m + 2 := by
               obtain ⟨a, b, h, _⟩ := Kd.R_form hR1 (by simp)
               exact ⟨a, b, _, h, by have := HM2.out; simp only [List.length_append, List.length_singleton]; omega⟩
             subst hv
             have HN5 := Aside0.mk hn5
             have HR1 := Aside0.mk hR1
             have HBB1 := Aside0.mk (HB.out.trans (Frm.of (g := g) hB1))
             have HG1 := Aside0.mk hg1
             have HAT1 := Aside0.mk hat1
             clear hR1 hB1 hg1 hat1 hn5))
        clear t0 t1 t2 x1 f1
        have hn5 := HN5.out
        obtain ⟨z1, z2, z3⟩ := HT.out.grown1 HHH.out HG1.out
        have s0 : World.cell? _ ⟨g, 0, none⟩ = some (.iface 82 (.agg #[.int .i64 a0, .int .i64 a1, .int .i64 a2, .int .u64 a3, .int .u64 a4, .int .u64 a5])) := blk_cell z1 0
        have s2 : World.cell? _ ⟨g, 2, none⟩ = some (.slice (some ⟨gH, 0, none⟩) hs.length cH) := blk_cell z1 2
        obtain ⟨s3, s4⟩ := kSH_cell z2 HHH.out
        replace s3 : World.cell? _ _ = some (.slice (some ⟨gr, 0, none⟩) rs.length cr) := s3
        obtain ⟨s5, s6⟩ := kSH_cell HR1.out (show (rs ++ [(A1, b1.length, c1)])[m]? = some (A6, b6.length, c6) by rw [List.getElem?_append_left (by have := HM2.out; omega)]; exact HY.out)
        replace s5 : World.cell? _ _ = some (.slice A6 b6.length c6) := s5
        have hmb : m ≤ 1099511627776 := by have := HM2.out; have := HRL.out; have := Nat.div_le_self n (2 ^ ℓ); have := HNL.out; omega
        have hn5' : IntKind.i64.wrap ((n5 : Int) - 2) = (m : Int) := by
          rw [HN5.out, show (((m + 2 : Nat) : Int) - 2) = (m : Int) by omega]
          exact IntWalk.i64_in _ (by omega)
        have m0 : 0 ≤ (m : Int) := by omega
        have m1 : (m : Int) < (n5 : Int) := by omega
        have m2 : decide ((m : Int) < (n5 : Int)) = true := decide_eq_true m1
        have m3 : decide (m < n5) = true := decide_eq_true (by omega)
        have HZ2 := Aside0.mk z2
        have HZ3 := Aside0.mk z3
        clear z1 z2 z3 hn5 hmb
        have hy2 := HTY.out.read.2.1
        have hx2 := HX.out.read.2.1
        have HY1 := Aside0.mk (HTY.out.pres HZ3.out).read.2.2
        have HX1 := Aside0.mk (HX.out.pres HZ3.out).read.2.2
        go_region_with (go_at_call 50; refine (impl_toy_HashChildren.calls k a0 a1 a2 a3 a4 a5 A6 c6 b6 A1 c1 b1 (val (ℓ + 1) (n / 2 ^ (ℓ + 1))) _ ?s1 hy2 ?s3 hx2 HC.out).mono ?_; (case s1 => repeat (first | exact HY1.out | (refine Kd.C_drewN ?_ _) | (refine Kd.C_drew ?_))); (case s3 => repeat (first | exact HX1.out | (refine Kd.C_drewN ?_ _) | (refine Kd.C_drew ?_))); rintro e w4 ⟨v4, rfl, hR4, hb4⟩; have HR4 := Aside0.mk hR4; have HB4 := Aside0.mk (show Below w1.heap.size w1 w4 from Below.trans (by repeat (first | exact Below.refl _ _ | apply Below.drew | apply pw_below_drewN)) hb4); clear hR4 hb4)
        all_goals
          clear s0 s2 s3 s4 s5 s6 HY1 HX1 hy2 hx2 hn5' m0 m1 m2 m3
          obtain ⟨⟨A4, n4, c4⟩, rfl⟩ := kSH_val' HR4.out
          obtain ⟨hP1, hP2⟩ := HT.out.put (s := (A1, b1.length, c1)) (h1 := (some ⟨g5, 0, none⟩, n5, c5)) rfl HHH.out HRS.out HR1.out HG1.out HAT1.out HB4.out (HX.out.at (by rw [HRL.out, HB1.out]))
          have HTn := Aside0.mk hP1
          have HPn := Aside0.mk hP2
          have q2 : World.cell? _ ⟨g, 2, none⟩ = some (.slice (some ⟨gH, 0, none⟩) hs.length cH) := (HB4.out.cell (World.block_lt_of_cell? _ _ (blk_cell (HT.out.grown1 HHH.out HG1.out).1 2))).trans (blk_cell (HT.out.grown1 HHH.out HG1.out).1 2)
          obtain ⟨q3, q4⟩ := kSH_cell (Kd.R_below HZ2.out HB4.out) HHH.out
          clear hP1 hP2
          go_step
          simp [Act.put]
          go_step
          go_wp2
          have hbs1 : base ≤ w1.heap.size := Nat.le_trans HBS.out HG1.out.size
          have hb5 : Frm base g w w4 := HBB1.out.trans (Frm.of (HB4.out.mono hbs1))
          have hgH : base ≤ gH := Kd.R_base HZ2.out gH rfl
          obtain ⟨cc, hcc⟩ := Kd.R_typed (Kd.R_below HZ2.out HB4.out) gH rfl
          have hnx := nxtL (i := ℓ) (by have := HI.out; have := (blen_le (m := 40)).2 HNL.out; omega)
          go_roundg k1
          case measure => omega
          case rel => exact ⟨ℓ + 1, (A4, n4, c4), _, _, _, rfl, by first | rfl | (rw [hnx]) | (congr 1), ⟨by have := HI.out; omega⟩, HTn, ⟨by rw [List.length_set]; exact HL.out⟩, ⟨mid_set HM.out HRS.out (by rw [List.length_append, List.length_singleton])⟩, ⟨(Txt.of_R HR4.out (Nat.le_trans HTB.out hbs1)).pres (Pres5.set hcc (by decide) ℓ _)⟩, ⟨fun i hi => by
            by_cases e : i = ℓ
            · subst e; exact HBIT.out
            · exact HO.out i (by omega)⟩, ⟨by rw [World.size_setCell]; exact Nat.le_trans HBS.out (Nat.le_trans (HG1.out.size) HB4.out.size)⟩, ⟨hb5.set (.inl hgH) _ _⟩, ⟨HP.out.trans HPn.out⟩⟩
    case neg =>
      have b9 : (Go.bits .and .u64 (nI / 2 ^ min ℓ 64) 1 == 1) = false := by
        rw [HN.out, bit_is n ℓ (by have := HNL.out; omega)]
        have := Nat.mod_two_eq_zero_or_one (n / 2 ^ ℓ)
        rw [show n / 2 ^ ℓ % 2 = 0 by omega]; rfl
      obtain ⟨t0, t1, t2⟩ := HT.out.c0
      obtain ⟨AH, nH, cH⟩ := H
      have enH := (Kd.R_reads' HT.out.outer).1
      have enH : nH = hs.length := enH
      subst enH
      replace t2 : World.cell? _ _ = some (.slice AH hs.length cH) := t2
      have hle : ℓ ≤ hs.length := by have := HI.out; have := HL.out; omega
      have hlb : ℓ ≤ 40 := by have := HI.out; have := (blen_le (m := 40)).2 HNL.out; omega
      have d0 : 0 ≤ (ℓ : Int) := by omega
      have e1 : decide ((hs.length : Int) < (ℓ : Int)) = false := decide_eq_false (by omega)
      have e1' : decide (hs.length < ℓ) = false := decide_eq_false (by omega)
      have HBIT := Aside0.mk hbit
      clear hbit hle hlb
      obtain ⟨rfl, hx2, hx3⟩ := HX.out.read
      clear hx2 hx3
      by_cases hlt : ℓ < hs.length
      case' pos =>
        have e2 : ((ℓ : Int) == (hs.length : Int)) = false := beq_eq_false_iff_ne.mpr (by omega)
        have e3 : (ℓ == hs.length) = false := beq_eq_false_iff_ne.mpr (by omega)
        have HLT := Aside0.mk hlt
        clear hlt
        go_wp2
        have HX2 := HX
        obtain ⟨W2, hW2⟩ : ∃ W2, W2 = wr := ⟨_, rfl⟩
        subst hW2
        have HT2 := HT
        have HI2 := HLT
        have HL2 := Aside0.mk (show hs.length = blen (n + 1) by rw [HL.out]; exact (blen_more HO.out HBIT.out (by have := HLT.out; have := HL.out; omega)).symm)
        have HM2 := HM
        have HB2 := HB
        have HBS2 := HBS
        have HP2 := HP
        obtain ⟨gH, cH2, eH, hgH⟩ := kSH_form HT2.out.outer (by have := HLT.out; omega)
        simp only [Prod.mk.injEq] at eH
        obtain ⟨rfl, -, rfl⟩ := eH
        obtain ⟨t0, t1, t2⟩ := HT2.out.c0
        replace t2 : World.cell? _ ⟨g, 2, none⟩ = some (.slice (some ⟨gH, 0, none⟩) hs.length cH) := t2
        obtain ⟨⟨Ah, nh, ch⟩, hh⟩ : ∃ h, hs[ℓ]? = some h := ⟨_, List.getElem?_eq_getElem HI2.out⟩
        obtain ⟨x1, f1⟩ := kSH_cell HT2.out.outer hh
        obtain ⟨rs, hrs, hRow⟩ := HT2.out.row ℓ _ hh
        have enh : nh = rs.length := (Kd.R_reads' hRow).1
        subst enh
        replace x1 : World.cell? _ _ = some (.slice Ah rs.length ch) := x1
        have d1 : (ℓ : Int) < (hs.length : Int) := by have := HI2.out; omega
        have c2 : decide ((ℓ : Int) < (hs.length : Int)) = true := decide_eq_true d1
        have c3 : decide (ℓ < hs.length) = true := decide_eq_true HI2.out
        have HRS := Aside0.mk hrs
        have HHH := Aside0.mk hh
        have HROW := Aside0.mk hRow
        clear hrs hh hRow hgH
      case' neg =>
        have e0 : ℓ = hs.length := by have := HI.out; have := HL.out; omega
        have e2 : ((ℓ : Int) == (hs.length : Int)) = true := beq_iff_eq.mpr (by omega)
        have e3 : (ℓ == hs.length) = true := beq_iff_eq.mpr e0
        have HE0 := Aside0.mk e0
        clear hlt e0
        go_wp2_with (first
          | ((with_reducible refine gate_builtin (b := .append) (xs := #[.tmp 66, .tmp 67]) rfl ?_); at_builtin
             refine Kd.R_append kSH (w0 := wr) base rfl (.tmp 66) (.tmp 67) 135 25 (.slice none 0 0) 24 rfl Tryd.underlying135 info25' rfl (by decide) (by omega) (.slice AH hs.length cH) hs (none, 0, 0) [.slice none 0 0] (fun _ => True) (fun _ => False) rfl rfl ?aP (fun _ h => h.elim) ?aF ?aO ?aB ?aS ?aL ?_
             (case aP => rfl)
             (case aF => exact fun _ _ => trivial)
             (case aO => exact HT.out.outer)
             (case aB => exact Below.refl _ _)
             (case aS => exact HBS.out)
             (case aL => have := HI.out; have := HL.out; have := (blen_le (m := 40)).2 HNL.out; omega)
             intro v1 w1 hR1 hB1 hg1 hat1
             obtain ⟨⟨A5, n5, c5⟩, hv⟩ := kSH_val hR1
             obtain rfl : v1 = .slice A5 n5 c5 := hv
             have s2 : World.cell? _ ⟨g, 2, none⟩ = some (.slice AH hs.length cH) := blk_cell (HT.out.grownH hg1) 2
             have s3 : World.frozen? _ ⟨g, 2, none⟩ = false := blk_frozen (HT.out.grownH hg1) 2
             have HR1 := Aside0.mk hR1
             have HBB1 := Aside0.mk (HB.out.trans (Frm.of (g := g) hB1))
             have HG1 := Aside0.mk hg1
             clear hR1 hB1 hg1 hat1))
        clear s2 s3 t0 t1
        have HT2 := Aside0.mk (HT.out.more (H1 := (A5, n5, c5)) HR1.out HG1.out).1
        have hp0 := (HT.out.more (H1 := (A5, n5, c5)) HR1.out HG1.out).2
        have HI2 := Aside0.mk (show ℓ < (hs ++ [((none, 0, 0) : SH)]).length by rw [List.length_append, List.length_singleton]; have := HE0.out; omega)
        have HL2 := Aside0.mk (show (hs ++ [((none, 0, 0) : SH)]).length = blen (n + 1) by rw [List.length_append, List.length_singleton]; rw [HL.out]; exact (blen_new HO.out (by have := HE0.out; have := HL.out; omega)).symm)
        have HM2 := Aside0.mk (mid_more HM.out HT.out.len (by rw [HL.out]; exact Nat.le_refl _) (by have := HE0.out; omega) (by have := HE0.out; omega))
        have HB2 := Aside0.mk (HBB1.out.set (q := g) (.inr rfl) 2 (.slice A5 n5 c5))
        have HBS2 := Aside0.mk (show base ≤ (World.setCell _ ⟨g, 2, none⟩ (.slice A5 n5 c5)).heap.size from by rw [World.size_setCell]; exact Nat.le_trans HBS.out HG1.out.size)
        have HP2 := Aside0.mk (HP.out.trans hp0)
        have HX2 := Aside0.mk (HX.out.pres hp0)
        obtain ⟨gH, cH2, eH, hgH⟩ := kSH_form HT2.out.outer (Nat.lt_of_le_of_lt (Nat.zero_le _) HI2.out)
        simp only [Prod.mk.injEq] at eH
        obtain ⟨rfl, rfl, rfl⟩ := eH
        generalize hhs : hs ++ [((none, 0, 0) : SH)] = hs2 at HT2 HI2 HL2 HB2 HBS2 HP2 HX2 ⊢
        generalize World.setCell _ _ _ = W2 at HT2 HB2 HBS2 HP2 HX2 ⊢
        clear hp0 hhs HR1
        obtain ⟨t0, t1, t2⟩ := HT2.out.c0
        replace t2 : World.cell? _ ⟨g, 2, none⟩ = some (.slice (some ⟨gH, 0, none⟩) hs2.length c5) := t2
        obtain ⟨⟨Ah, nh, ch⟩, hh⟩ : ∃ h, hs2[ℓ]? = some h := ⟨_, List.getElem?_eq_getElem HI2.out⟩
        obtain ⟨x1, f1⟩ := kSH_cell HT2.out.outer hh
        obtain ⟨rs, hrs, hRow⟩ := HT2.out.row ℓ _ hh
        have enh : nh = rs.length := (Kd.R_reads' hRow).1
        subst enh
        replace x1 : World.cell? _ _ = some (.slice Ah rs.length ch) := x1
        have d1 : (ℓ : Int) < (hs2.length : Int) := by have := HI2.out; omega
        have c2 : decide ((ℓ : Int) < (hs2.length : Int)) = true := decide_eq_true d1
        have c3 : decide (ℓ < hs2.length) = true := decide_eq_true HI2.out
        have HRS := Aside0.mk hrs
        have HHH := Aside0.mk hh
        have HROW := Aside0.mk hRow
        clear hrs hh hRow hgH
      all_goals
        have x1o := ((below_alloc (Below.refl W2.heap.size W2) (Obj.cells #[Value.slice A1 (val ℓ (n / 2 ^ ℓ)).length c1] 27)).cell (p := ⟨gH, ℓ, none⟩) (World.block_lt_of_cell? W2 _ x1)).trans x1
        have t2o := ((below_alloc (Below.refl W2.heap.size W2) (Obj.cells #[Value.slice A1 (val ℓ (n / 2 ^ ℓ)).length c1] 27)).cell (p := ⟨g, 2, none⟩) (World.block_lt_of_cell? W2 _ t2)).trans t2
        go_region_law (first
          | (refine Kd.R_append_rows_step kSH (Rr := fun (x : SH) cs => cs = [shE x]) (w0 := W2) base ?hw (.tmp 82) (.tmp 84) 25 27 (.slice none 0 0) 24 rfl Tryd.underlying25 info27 rfl (by decide) (by omega) (.slice Ah rs.length ch) rs [(A1, (val ℓ (n / 2 ^ ℓ)).length, c1)] (some ⟨W2.heap.size, 0, none⟩) 1 1 (fun _ => True) (fun _ => False) rfl rfl ?aO ?aR (fun _ _ h => h) (fun _ h => h.elim) ?aF ?aB ?aS ?aL ?_
             (case hw => simp [Region.wanted])
             (case aF => exact fun _ _ => trivial)
             (case aO => exact Kd.R_below HROW.out (by repeat (first | exact Below.refl _ _ | apply Below.drew | apply pw_below_drewN | exact below_alloc (Below.refl _ _) _)))
             (case aR => exact box_rows (by (with_reducible repeat (first | refine blk_drewN ?_ _ | refine blk_drew ?_)); exact blk_new _ _))
             (case aB => exact (Below.mono (B := W2.heap.size) (by repeat (first | exact Below.refl _ _ | apply Below.drew | apply pw_below_drewN | exact below_alloc (Below.refl _ _) _)) HBS2.out))
             (case aS => exact Nat.le_trans HBS2.out (Below.size (B := W2.heap.size) (by repeat (first | exact Below.refl _ _ | apply Below.drew | apply pw_below_drewN | exact below_alloc (Below.refl _ _) _))))
             (case aL => exact room_rs HM2.out HRS.out HNL.out)
             intro v5 w5 hR5 hB5 hg5 hat5
             obtain ⟨⟨A7, n7, c7⟩, hv⟩ := kSH_val hR5
             obtain rfl : v5 = .slice A7 n7 c7 := hv
             have HR5 := Aside0.mk hR5
             have HB5 := Aside0.mk (HB2.out.trans (Frm.of (g := g) hB5))
             have HG5 := Aside0.mk (grown_from (W := W2) (by repeat (first | exact Below.refl _ _ | apply Below.drew | apply pw_below_drewN | exact below_alloc (Below.refl _ _) _)) hg5)
             have HAT5 := Aside0.mk (hat_from (W := W2) (by repeat (first | exact Below.refl _ _ | apply Below.drew | apply pw_below_drewN | exact below_alloc (Below.refl _ _) _)) hat5)
             obtain ⟨y1, y2⟩ := kSH_cell (HT2.out.grown1 HHH.out HG5.out).2.1 HHH.out
             replace y1 : World.cell? _ _ = some (.slice Ah rs.length ch) := y1
             have y3 := ((blk_cell (HT2.out.grown1 HHH.out HG5.out).1 2).trans (blk_cell HT2.out.cell 2).symm).trans t2
             clear hR5 hB5 hg5 hat5))
      all_goals
        clear t0 t1 t2 x1 f1 y1 y2 y3 x1o t2o
        have hP := HT2.out.put (s := (A1, (val ℓ (n / 2 ^ ℓ)).length, c1)) (h1 := (A7, n7, c7)) rfl HHH.out HRS.out HR5.out HG5.out HAT5.out (Below.refl w5.heap.size w5) (HX2.out.at (by rw [mid_at HM2.out HRS.out]))
        have HT3 := Aside0.mk hP.1
        have HP3 := Aside0.mk (HP2.out.trans hP.2)
        have hgH : base ≤ gH := Kd.R_base HT2.out.outer gH rfl
        have HB3 := Aside0.mk (HB5.out.set (q := gH) (.inl hgH) ℓ (.slice A7 n7 c7))
        clear hP hgH
        have HT3 : Aside0 (TreeAt (w5.setCell ⟨gH, ℓ, none⟩ (.slice A7 n7 c7)) _ _ _ _ _ _ _ _ _) := HT3
        have HP3 : Aside0 (Pres5 w (w5.setCell ⟨gH, ℓ, none⟩ (.slice A7 n7 c7))) := HP3
        go_step
        try simp [Act.put]
        go_step
        generalize w5.setCell ⟨gH, ℓ, none⟩ (.slice A7 n7 c7) = W6 at HT3 HP3 HB3 ⊢
        have t1 := HT3.out.c0.2.1
        have t1f := blk_frozen HT3.out.cell 1
        have hn0 : 0 ≤ nI := by have := HN.out; omega
        have hn1 : nI ≤ 1099511627776 := by have := HN.out; have := HNL.out; omega
        go_wp2
        go_end0
        refine ⟨rfl, _, _, _, (HT3.out.size (nI + 1)).1, ?_, mid_next (mid_set HM2.out HRS.out (by rw [List.length_append, List.length_singleton])) HO.out HBIT.out, HB3.out.set (q := g) (.inr rfl) 1 _, HP3.out.trans (HT3.out.size (nI + 1)).2⟩
        rw [List.length_set]; exact HL2.out
end Go.Proofs.YtielnphmcaecdaaDoor.PAll
