-- Written by a program of this session (wip/tools)
import Derived.Test.YtielnphmcaecdaaDoorQTTTreeMem
import Derived.Test.YtielnphmcaecdaaDoorQTTPAllx4
import Derived.Outline
import Derived.Deep.QuietTactic
import Derived.BigQuiet
import Derived.Deep.RegionWith
import Derived.Deep.RegionLaw
import Derived.Deep.RegionHeldLaw
import Derived.IntWalk
import Derived.Test.YtielnphmcaecdaaDoorQTTExtTz
import Derived.Test.YtielnphmcaecdaaDoorQTTV0
import Derived.Laws.BitsAllLaws
import Derived.Test.YtielnphmcaecdaaDoorQTTPAllx2
set_option maxHeartbeats 8000000
set_option maxRecDepth 100000
set_option linter.unusedVariables false
set_option linter.unusedSimpArgs false
namespace Go.Proofs.YtielnphmcaecdaaDoor.PAll
open Go.RowKit Go.Proofs.YtielnphmcaecdaaDoorW.PrintWords Go.Proofs.YtielnphmcaecdaaDoorW.PrintLast Go.Proofs.YtielnphmcaecdaaDoorW.PrintMore
structure Vs (q : Nat) (w w' : World) : Prop where
 os : w'.os = w.os
 tape : w'.tape = w.tape
 output : w'.output = w.output
 size : w.heap.size ≤ w'.heap.size
 block : ∀ k, k < w.heap.size → k ≠ q → (∀ c, w.heap[k]? ≠ some (.cells c 51 (0, 0))) → w'.heap[k]? = w.heap[k]?
theorem Vs.refl (q : Nat) (w : World) : Vs q w w := ⟨rfl, rfl, rfl, Nat.le_refl _, fun _ _ _ _ => rfl⟩
theorem Vs.trans {q : Nat} {a b c : World} (h : Vs q a b) (g : Vs q b c) : Vs q a c :=
 ⟨g.os.trans h.os, g.tape.trans h.tape, g.output.trans h.output, Nat.le_trans h.size g.size, fun k hk hq hc => by
  have h1 := h.block k hk hq hc
  exact (g.block k (Nat.lt_of_lt_of_le hk h.size) hq (fun c => by rw [h1]; exact hc c)).trans h1⟩
theorem Vs.of {q : Nat} {a b : World} (h : Below a.heap.size a b) : Vs q a b := ⟨h.os, h.tape, h.output, h.size, fun k hk _ _ => h.block k hk⟩
theorem Vs.blk {q g t : Nat} {w w' : World} {c : Array Value} (h : Vs q w w') (hb : w.heap[g]? = some (.cells c t (0, 0))) (hq : g ≠ q) (ht : t ≠ 51) : w'.heap[g]? = some (.cells c t (0, 0)) :=
 (h.block g (blk_lt hb) hq (fun d hd => by rw [hb] at hd; injection hd with hd; injection hd with _ hd; exact ht hd)).trans hb
theorem Vs.pres {q : Nat} {w w' : World} {SV : Array Value} (h : Vs q w w') (hq : w.heap[q]? = some (.cells SV 36 (0, 0))) : Pres5 w w' := fun k hk => by
 obtain ⟨c, hc⟩ := hk
 rw [h.blk hc (fun e => by subst e; rw [hq] at hc; injection hc with hc; injection hc with _ hc; cases hc) (by decide), hc]
theorem Vs.rw {q : Nat} {w w' : World} {SV : Array Value} {tb : Nat} {v : Value} {rs : List SH} (h : Vs q w w') (hq : w.heap[q]? = some (.cells SV 36 (0, 0))) (hR : Rw w tb v rs) : Rw w' tb v rs :=
 Kd.R_mono (Kd.R_step (Kd.R_tight rfl hR) (fun k hk hlt => by
  obtain ⟨c, hc⟩ := Kd.R_typed hR k hk.symm
  rw [h.blk hc (fun e => by subst e; rw [hq] at hc; injection hc with hc; injection hc with _ hc; cases hc) (by decide), hc])) (fun _ _ => trivial)
theorem lit_R (X : World) {B : Nat} (h : B ≤ X.heap.size) : Kd.R (Kd.int .u8) 5 (X.alloc (.cells #[] 5)) B (fun k => B ≤ k) (.slice (some ⟨X.heap.size, 0, none⟩) 0 0) [] := by
 refine ⟨fun k hk => ?_, [], ⟨rfl, .inr ⟨X.heap.size, 0, #[], rfl, h, blk_new X _, Nat.le_refl _, by decide, rfl, rfl⟩⟩, Reps.none _ _⟩
 have : X.heap.size = k := by simpa [Value.ownBlock] using hk
 omega
theorem Vs.below {q B : Nat} {w w' : World} (h : Vs q w w') (hq : B ≤ q) (hv : ∀ k c, k < B → w.heap[k]? ≠ some (.cells c 51 (0, 0))) (hB : B ≤ w.heap.size) : Below B w w' :=
 ⟨h.os, h.tape, h.output, h.size, fun k hk => h.block k (by omega) (by omega) (fun c => hv k c hk)⟩
theorem seen_end {w W0 wq : World} {tb q : Nat} {SV v13 : Value} {vs vs' : List S51} {ok : Nat → Prop} (hb : tb ≤ w.heap.size) (HB : Below w.heap.size w W0) (HS0 : Kd.S k51 51 W0 tb ok SV vs) (HQ13 : wq.heap[q]? = some (.cells #[SV] 36 (0, 0))) (HK13 : ∀ k, k < W0.heap.size → some k ≠ SV.ownBlock → wq.heap[k]? = W0.heap[k]?) (HB13 : Below tb W0 wq) (HS13 : Kd.S k51 51 wq tb (fun _ => True) v13 vs') :
 ∃ SV', (wq.setCell ⟨q, 0, none⟩ v13).heap[q]? = some (.cells #[SV'] 36 (0, 0)) ∧ Kd.S k51 51 (wq.setCell ⟨q, 0, none⟩ v13) tb (fun _ => True) SV' vs' ∧ (∀ B, B ≤ tb → B ≤ q → Below B w (wq.setCell ⟨q, 0, none⟩ v13)) ∧ Vs q w (wq.setCell ⟨q, 0, none⟩ v13) := by
 have hB : ∀ B, B ≤ tb → B ≤ q → Below B w (wq.setCell ⟨q, 0, none⟩ v13) := fun B h1 h2 => ((HB.mono (Nat.le_trans h1 hb)).trans (HB13.mono h1)).setCell (p := ⟨q, 0, none⟩) h2 _
 have h0 := hB 0 (Nat.zero_le _) (Nat.zero_le _)
 refine ⟨v13, blk_set HQ13 0 v13, Kd.S_set HS13 HQ13 (by decide) 0 v13, hB, ⟨h0.os, h0.tape, h0.output, h0.size, fun k hk hq hc => ?_⟩⟩
 rw [Below.heap_setCell wq ⟨q, 0, none⟩ v13 k hq, HK13 k (Nat.lt_of_lt_of_le hk HB.size) (fun e => ?_)]
 ·exact HB.block k hk
 ·obtain ⟨c, hc2⟩ := Kd.S_typed HS0 k e.symm
  exact hc c ((HB.block k hk).symm.trans hc2)
attribute [local go_sem] max2_int min2_int max_two min_two max_three min_three max_four min_four   -- for this text's walks alone
def proof_decompInclProof.f (k : Nat) (a0 : Int) (a1 : Int) : Option (Int × Int) := (proof_innerProofSize.f k a0 a1).bind fun t207 => (if 0 ≤ (IntKind.u64.wrap (t207)) then ((bits_OnesCount64.f (shr .u64 a0 (IntKind.u64.wrap (t207)))).bind fun t208 => (some (t207, t208))) else (none))
theorem proof_decompInclProof.calls (k : Nat) (a0 : Int) (a1 : Int) (r1 : Int) (r2 : Int) (w : World) (h : proof_decompInclProof.f k a0 a1 = some (r1, r2)) :
 Calls Tryd.prog 103 #[.int .u64 a0, .int .u64 a1] w fun e w' => e = .returned (.tuple #[.int .i64 r1, .int .i64 r2]) ∧ Drawn0 w w' := by
 have H : ((proof_innerProofSize.f k a0 a1).bind fun t207 => (if 0 ≤ (IntKind.u64.wrap (t207)) then ((bits_OnesCount64.f (shr .u64 a0 (IntKind.u64.wrap (t207)))).bind fun t208 => (some (t207, t208))) else (none))) = some (r1, r2) := h
 clear h
 replace H := Option.bind_eq_some_iff.mp H
 obtain ⟨t207, A30, H⟩ := H
 replace H : (if 0 ≤ (IntKind.u64.wrap (t207)) then ((bits_OnesCount64.f (shr .u64 a0 (IntKind.u64.wrap (t207)))).bind fun t208 => (some (t207, t208))) else (none)) = some (r1, r2) := H
 have A3 := Aside0.mk A30
 clear A30
 obtain ⟨ji4, hji4⟩ : ∃ j_ : Int, (IntKind.u64.wrap (t207)) = j_ := ⟨_, rfl⟩
 replace H : (if 0 ≤ (ji4) then ((bits_OnesCount64.f (shr .u64 a0 (ji4))).bind fun t208 => (some (t207, t208))) else (none)) = some (r1, r2) := by first | (rw [hji4] at H; exact H)
 (try rw [hji4] at A3)
 by_cases c5 : 0 ≤ (ji4)
 ·rw [if_pos c5] at H
  have c5b0 := eq_true c5
  have c5b1 : decide (0 ≤ (ji4)) = true := decide_eq_true c5
  clear c5
  obtain ⟨ji6, hji6⟩ : ∃ j_ : Int, (shr .u64 a0 (ji4)) = j_ := ⟨_, rfl⟩
  replace H : ((bits_OnesCount64.f (ji6)).bind fun t208 => (some (t207, t208))) = some (r1, r2) := by first | (rw [hji6] at H; exact H)
  (try rw [hji6] at A3)
  have hji6_ : (a0 / 2 ^ min (ji4).toNat 64) = ji6 := hji6
  have hji6z : (ji4) ≤ 64 → (a0 / 2 ^ (ji4).toNat) = ji6 := shr_small hji6
  replace H := Option.bind_eq_some_iff.mp H
  obtain ⟨t208, A70, H⟩ := H
  replace H : (some (t207, t208)) = some (r1, r2) := H
  have A7 := Aside0.mk A70
  clear A70
  simp only [Option.some.injEq, Prod.mk.injEq] at H
  obtain ⟨rfl, rfl⟩ := H
  go_enter Tryd.func103, Tryd.ntmps103
  go_wp2_with (first | ((with_reducible refine gate_callee (f := 117) rfl ?_); refine goesL_ (some 10) rfl rfl Tryd.func117 (by kernel_rfl) rfl #[.int .u64 a0, .int .u64 a1] rfl (by (try simp only [List.map_toArray, List.map_cons, List.map_nil]); first | rfl) ?_; (with_reducible refine (proof_innerProofSize.calls k a0 a1 t207 _ A3.out).mono ?_); rintro e w' ⟨rfl, ⟨nd, rfl⟩⟩; refine ⟨_, rfl, ?_⟩) | ((with_reducible refine gate_callee (f := 110) rfl ?_); refine goesL_ (some 15) rfl rfl Tryd.func110 (by kernel_rfl) rfl #[.int .u64 ji6] rfl (by (try simp only [List.map_toArray, List.map_cons, List.map_nil]); first | rfl) ?_; (with_reducible refine (bits_OnesCount64.calls ji6 t208 _ A7.out).mono ?_); rintro e w' ⟨rfl, ⟨nd, rfl⟩⟩; refine ⟨_, rfl, ?_⟩))
  go_ret2
  exact ⟨by first | rfl, by repeat (first | exact Drawn0.refl _ | apply Drawn0.step)⟩
 ·rw [if_neg c5] at H
  exact absurd H (by simp)
def compact_getMergePath.f (k : Nat) (a0 : Int) (a1 : Int) (a2 : Int) : Option (Int × Int) := (bits_TrailingZeros64.f a1).bind fun t209 => (if a0 = 0 then ((bits_Len64.f k (Go.bits .xor .u64 (IntKind.u64.wrap (a1 - 1)) a2)).bind fun t210 => (if t210 < 64 then (some (IntKind.u64.wrap (t209), IntKind.u64.wrap (wrap64 (t210 - 1)))) else (some (IntKind.u64.wrap (t209), 64 - 1)))) else ((bits_Len64.f k (Go.bits .xor .u64 a1 (IntKind.u64.wrap (a0 - 1)))).bind fun t211 => ((bits_Len64.f k (Go.bits .xor .u64 (IntKind.u64.wrap (a1 - 1)) a2)).bind fun t212 => (if t212 < t211 then (some (IntKind.u64.wrap (t209), IntKind.u64.wrap (wrap64 (t212 - 1)))) else (some (IntKind.u64.wrap (t209), IntKind.u64.wrap (wrap64 (t211 - 1))))))))
theorem compact_getMergePath.mono : ∀ a0 a1 a2 k, LeO (compact_getMergePath.f k a0 a1 a2) (compact_getMergePath.f (k + 1) a0 a1 a2) := by
 intro a0 a1 a2 k
 unfold compact_getMergePath.f
 repeat' first
  | (with_reducible exact bits_Len64.mono _ _)
  | (with_reducible exact LeO.refl _)
  | (with_reducible refine LeO.ite ?_ ?_)
  | (with_reducible refine LeO.bind ?_ (fun _ => ?_))
theorem compact_getMergePath.calls (k : Nat) (a0 : Int) (a1 : Int) (a2 : Int) (r1 : Int) (r2 : Int) (w : World) (hG : Glob w) (h : compact_getMergePath.f k a0 a1 a2 = some (r1, r2)) :
 Calls Tryd.prog 111 #[.int .u64 a0, .int .u64 a1, .int .u64 a2] w fun e w' => e = .returned (.tuple #[.int .u64 r1, .int .u64 r2]) ∧ Drawn0 w w' := by
 have H : ((bits_TrailingZeros64.f a1).bind fun t209 => (if a0 = 0 then ((bits_Len64.f k (Go.bits .xor .u64 (IntKind.u64.wrap (a1 - 1)) a2)).bind fun t210 => (if t210 < 64 then (some (IntKind.u64.wrap (t209), IntKind.u64.wrap (wrap64 (t210 - 1)))) else (some (IntKind.u64.wrap (t209), 64 - 1)))) else ((bits_Len64.f k (Go.bits .xor .u64 a1 (IntKind.u64.wrap (a0 - 1)))).bind fun t211 => ((bits_Len64.f k (Go.bits .xor .u64 (IntKind.u64.wrap (a1 - 1)) a2)).bind fun t212 => (if t212 < t211 then (some (IntKind.u64.wrap (t209), IntKind.u64.wrap (wrap64 (t212 - 1)))) else (some (IntKind.u64.wrap (t209), IntKind.u64.wrap (wrap64 (t211 - 1))))))))) = some (r1, r2) := h
 clear h
 replace H := Option.bind_eq_some_iff.mp H
 obtain ⟨t209, A40, H⟩ := H
 replace H : (if a0 = 0 then ((bits_Len64.f k (Go.bits .xor .u64 (IntKind.u64.wrap (a1 - 1)) a2)).bind fun t210 => (if t210 < 64 then (some (IntKind.u64.wrap (t209), IntKind.u64.wrap (wrap64 (t210 - 1)))) else (some (IntKind.u64.wrap (t209), 64 - 1)))) else ((bits_Len64.f k (Go.bits .xor .u64 a1 (IntKind.u64.wrap (a0 - 1)))).bind fun t211 => ((bits_Len64.f k (Go.bits .xor .u64 (IntKind.u64.wrap (a1 - 1)) a2)).bind fun t212 => (if t212 < t211 then (some (IntKind.u64.wrap (t209), IntKind.u64.wrap (wrap64 (t212 - 1)))) else (some (IntKind.u64.wrap (t209), IntKind.u64.wrap (wrap64 (t211 - 1)))))))) = some (r1, r2) := H
 have A4 := Aside0.mk A40
 clear A40
 by_cases c5 : a0 = 0
 ·rw [if_pos c5] at H
  have c5b0 : (a0 == 0) = true := beq_iff_eq.mpr c5
  have c5b1 : (a0 != 0) = false := bne_eq_false_iff_eq.mpr c5
  clear c5
  replace H := Option.bind_eq_some_iff.mp H
  obtain ⟨t210, A60, H⟩ := H
  replace H : (if t210 < 64 then (some (IntKind.u64.wrap (t209), IntKind.u64.wrap (wrap64 (t210 - 1)))) else (some (IntKind.u64.wrap (t209), 64 - 1))) = some (r1, r2) := H
  have A6 := Aside0.mk A60
  clear A60
  by_cases c7 : t210 < 64
  ·rw [if_pos c7] at H
   have c7b0 : decide (t210 < 64) = true := decide_eq_true c7
   clear c7
   simp only [Option.some.injEq, Prod.mk.injEq] at H
   obtain ⟨rfl, rfl⟩ := H
   go_enter Tryd.func111, Tryd.ntmps111
   go_wp2_with (first | ((with_reducible refine gate_callee (f := 95) rfl ?_); refine goesL_ (some 12) rfl rfl Tryd.func95 (by kernel_rfl) rfl #[.int .u64 a1] rfl (by (try simp only [List.map_toArray, List.map_cons, List.map_nil]); first | rfl) ?_; (with_reducible refine (bits_TrailingZeros64.calls a1 t209 _ ?side1 A4.out).mono ?_); (case side1 => repeat (first | exact hG)); rintro e w' ⟨rfl, ⟨nd, rfl⟩⟩; refine ⟨_, rfl, ?_⟩) | ((with_reducible refine gate_callee (f := 109) rfl ?_); refine goesL_ (some 24) rfl rfl Tryd.func109 (by kernel_rfl) rfl #[.int .u64 (Go.bits .xor .u64 (IntKind.u64.wrap (a1 - 1)) a2)] rfl (by (try simp only [List.map_toArray, List.map_cons, List.map_nil]); first | rfl) ?_; (with_reducible refine (bits_Len64.calls k (Go.bits .xor .u64 (IntKind.u64.wrap (a1 - 1)) a2) t210 _ A6.out).mono ?_); rintro e w' ⟨rfl, ⟨nd, rfl⟩⟩; refine ⟨_, rfl, ?_⟩))
   go_ret2
   exact ⟨by first | rfl, by repeat (first | exact Drawn0.refl _ | apply Drawn0.step)⟩
  ·rw [if_neg c7] at H
   have c7b0 : decide (t210 < 64) = false := decide_eq_false c7
   clear c7
   simp only [Option.some.injEq, Prod.mk.injEq] at H
   obtain ⟨rfl, rfl⟩ := H
   go_enter Tryd.func111, Tryd.ntmps111
   go_wp2_with (first | ((with_reducible refine gate_callee (f := 95) rfl ?_); refine goesL_ (some 12) rfl rfl Tryd.func95 (by kernel_rfl) rfl #[.int .u64 a1] rfl (by (try simp only [List.map_toArray, List.map_cons, List.map_nil]); first | rfl) ?_; (with_reducible refine (bits_TrailingZeros64.calls a1 t209 _ ?side1 A4.out).mono ?_); (case side1 => repeat (first | exact hG)); rintro e w' ⟨rfl, ⟨nd, rfl⟩⟩; refine ⟨_, rfl, ?_⟩) | ((with_reducible refine gate_callee (f := 109) rfl ?_); refine goesL_ (some 24) rfl rfl Tryd.func109 (by kernel_rfl) rfl #[.int .u64 (Go.bits .xor .u64 (IntKind.u64.wrap (a1 - 1)) a2)] rfl (by (try simp only [List.map_toArray, List.map_cons, List.map_nil]); first | rfl) ?_; (with_reducible refine (bits_Len64.calls k (Go.bits .xor .u64 (IntKind.u64.wrap (a1 - 1)) a2) t210 _ A6.out).mono ?_); rintro e w' ⟨rfl, ⟨nd, rfl⟩⟩; refine ⟨_, rfl, ?_⟩))
   go_ret2
   exact ⟨by first | rfl, by repeat (first | exact Drawn0.refl _ | apply Drawn0.step)⟩
 ·rw [if_neg c5] at H
  have c5b0 : (a0 == 0) = false := beq_eq_false_iff_ne.mpr c5
  have c5b1 : (a0 != 0) = true := bne_iff_ne.mpr c5
  replace H := Option.bind_eq_some_iff.mp H
  obtain ⟨t211, A80, H⟩ := H
  replace H : ((bits_Len64.f k (Go.bits .xor .u64 (IntKind.u64.wrap (a1 - 1)) a2)).bind fun t212 => (if t212 < t211 then (some (IntKind.u64.wrap (t209), IntKind.u64.wrap (wrap64 (t212 - 1)))) else (some (IntKind.u64.wrap (t209), IntKind.u64.wrap (wrap64 (t211 - 1)))))) = some (r1, r2) := H
  have A8 := Aside0.mk A80
  clear A80
  replace H := Option.bind_eq_some_iff.mp H
  obtain ⟨t212, A90, H⟩ := H
  replace H : (if t212 < t211 then (some (IntKind.u64.wrap (t209), IntKind.u64.wrap (wrap64 (t212 - 1)))) else (some (IntKind.u64.wrap (t209), IntKind.u64.wrap (wrap64 (t211 - 1))))) = some (r1, r2) := H
  have A9 := Aside0.mk A90
  clear A90
  by_cases c10 : t212 < t211
  ·rw [if_pos c10] at H
   have c10b0 : decide (t212 < t211) = true := decide_eq_true c10
   clear c10
   simp only [Option.some.injEq, Prod.mk.injEq] at H
   obtain ⟨rfl, rfl⟩ := H
   go_enter Tryd.func111, Tryd.ntmps111
   go_wp2_with (first | ((with_reducible refine gate_callee (f := 95) rfl ?_); refine goesL_ (some 12) rfl rfl Tryd.func95 (by kernel_rfl) rfl #[.int .u64 a1] rfl (by (try simp only [List.map_toArray, List.map_cons, List.map_nil]); first | rfl) ?_; (with_reducible refine (bits_TrailingZeros64.calls a1 t209 _ ?side1 A4.out).mono ?_); (case side1 => repeat (first | exact hG)); rintro e w' ⟨rfl, ⟨nd, rfl⟩⟩; refine ⟨_, rfl, ?_⟩) | ((with_reducible refine gate_callee (f := 109) rfl ?_); refine goesL_ (some 19) rfl rfl Tryd.func109 (by kernel_rfl) rfl #[.int .u64 (Go.bits .xor .u64 a1 (IntKind.u64.wrap (a0 - 1)))] rfl (by (try simp only [List.map_toArray, List.map_cons, List.map_nil]); first | rfl) ?_; (with_reducible refine (bits_Len64.calls k (Go.bits .xor .u64 a1 (IntKind.u64.wrap (a0 - 1))) t211 _ A8.out).mono ?_); rintro e w' ⟨rfl, ⟨nd, rfl⟩⟩; refine ⟨_, rfl, ?_⟩) | ((with_reducible refine gate_callee (f := 109) rfl ?_); refine goesL_ (some 24) rfl rfl Tryd.func109 (by kernel_rfl) rfl #[.int .u64 (Go.bits .xor .u64 (IntKind.u64.wrap (a1 - 1)) a2)] rfl (by (try simp only [List.map_toArray, List.map_cons, List.map_nil]); first | rfl) ?_; (with_reducible refine (bits_Len64.calls k (Go.bits .xor .u64 (IntKind.u64.wrap (a1 - 1)) a2) t212 _ A9.out).mono ?_); rintro e w' ⟨rfl, ⟨nd, rfl⟩⟩; refine ⟨_, rfl, ?_⟩))
   go_ret2
   exact ⟨by first | rfl, by repeat (first | exact Drawn0.refl _ | apply Drawn0.step)⟩
  ·rw [if_neg c10] at H
   have c10b0 : decide (t212 < t211) = false := decide_eq_false c10
   clear c10
   simp only [Option.some.injEq, Prod.mk.injEq] at H
   obtain ⟨rfl, rfl⟩ := H
   go_enter Tryd.func111, Tryd.ntmps111
   go_wp2_with (first | ((with_reducible refine gate_callee (f := 95) rfl ?_); refine goesL_ (some 12) rfl rfl Tryd.func95 (by kernel_rfl) rfl #[.int .u64 a1] rfl (by (try simp only [List.map_toArray, List.map_cons, List.map_nil]); first | rfl) ?_; (with_reducible refine (bits_TrailingZeros64.calls a1 t209 _ ?side1 A4.out).mono ?_); (case side1 => repeat (first | exact hG)); rintro e w' ⟨rfl, ⟨nd, rfl⟩⟩; refine ⟨_, rfl, ?_⟩) | ((with_reducible refine gate_callee (f := 109) rfl ?_); refine goesL_ (some 19) rfl rfl Tryd.func109 (by kernel_rfl) rfl #[.int .u64 (Go.bits .xor .u64 a1 (IntKind.u64.wrap (a0 - 1)))] rfl (by (try simp only [List.map_toArray, List.map_cons, List.map_nil]); first | rfl) ?_; (with_reducible refine (bits_Len64.calls k (Go.bits .xor .u64 a1 (IntKind.u64.wrap (a0 - 1))) t211 _ A8.out).mono ?_); rintro e w' ⟨rfl, ⟨nd, rfl⟩⟩; refine ⟨_, rfl, ?_⟩) | ((with_reducible refine gate_callee (f := 109) rfl ?_); refine goesL_ (some 24) rfl rfl Tryd.func109 (by kernel_rfl) rfl #[.int .u64 (Go.bits .xor .u64 (IntKind.u64.wrap (a1 - 1)) a2)] rfl (by (try simp only [List.map_toArray, List.map_cons, List.map_nil]); first | rfl) ?_; (with_reducible refine (bits_Len64.calls k (Go.bits .xor .u64 (IntKind.u64.wrap (a1 - 1)) a2) t212 _ A9.out).mono ?_); rintro e w' ⟨rfl, ⟨nd, rfl⟩⟩; refine ⟨_, rfl, ?_⟩))
   go_ret2
   exact ⟨by first | rfl, by repeat (first | exact Drawn0.refl _ | apply Drawn0.step)⟩
def bytes_Equal.f (l0 : List Int) (l1 : List Int) : Option (Bool) := some ((strOfNums l0).toList == (strOfNums l1).toList)
theorem bytes_Equal.calls (A0 : Option Addr) (c0 : Nat) (l0 : List Int) (A1 : Option Addr) (c1 : Nat) (l1 : List Int) (r : Bool) (w : World) (hr0 : Kd.C (Kd.int .u8) w A0 l0.length l0) (hc0 : l0.length ≤ c0) (hr1 : Kd.C (Kd.int .u8) w A1 l1.length l1) (hc1 : l1.length ≤ c1) (h : bytes_Equal.f l0 l1 = some r) :
 Calls Tryd.prog 116 #[.slice A0 l0.length c0, .slice A1 l1.length c1] w fun e w' => e = .returned (.bool r) ∧ Drawn0 w w' := by
 have HR0 := Aside0.mk hr0
 have HC0 := Aside0.mk hc0
 clear hr0 hc0
 have HR1 := Aside0.mk hr1
 have HC1 := Aside0.mk hc1
 clear hr1 hc1
 have H : (some ((strOfNums l0).toList == (strOfNums l1).toList)) = some r := h
 clear h
 obtain rfl := Option.some.inj H
 have hcv3 := Kd.C_string (P := Tryd.prog) (A := A0) (c := c0) Tryd.underlying27 Tryd.underlying5 Tryd.underlying9 HR0.out
 have hcv4 := Kd.C_string (P := Tryd.prog) (A := A1) (c := c1) Tryd.underlying27 Tryd.underlying5 Tryd.underlying9 HR1.out
 go_enter Tryd.func116, Tryd.ntmps116
 go_wp2
 go_ret
 exact ⟨by first | rfl, by repeat (first | exact Drawn0.refl _)⟩
def laws_zzFits2.l0 : Nat → List (List Int) → Int → Int → Option (Bool)
 | 0, _, _, _ => none
 | k + 1, x8, x9, x10 => if x10 < x9 then (if 0 ≤ x10 then (if x10 < (x8.length : Int) then (if ((rd_L1 x8 x10).length : Int) > 2147483647 then (some false) else (laws_zzFits2.l0 k x8 x9 (wrap64 (x10 + 1)))) else (none)) else (none)) else (some true)
def laws_zzFits2.f (k : Nat) (l0 : List (List Int)) : Option (Bool) := if (l0.length : Int) > 2147483647 then (some false) else (laws_zzFits2.l0 k l0 (l0.length : Int) 0)
theorem laws_zzFits2.mono_l : ∀ k, (∀ y0 y1 y2, LeO (laws_zzFits2.l0 k y0 y1 y2) (laws_zzFits2.l0 (k + 1) y0 y1 y2))
 | 0 => fun _ _ _ r h => by simp [laws_zzFits2.l0] at h
 | k + 1 => by
  have ih0 := laws_zzFits2.mono_l k
  ·intro y0 y1 y2
   unfold laws_zzFits2.l0
   repeat' first
   | (with_reducible exact ih0 _ _ _)
   | (with_reducible exact LeO.refl _)
   | (with_reducible refine LeO.ite ?_ ?_)
theorem laws_zzFits2.mono : ∀ a0 k, LeO (laws_zzFits2.f k a0) (laws_zzFits2.f (k + 1) a0) := by
 intro a0 k
 have ih0 := laws_zzFits2.mono_l k
 unfold laws_zzFits2.f
 repeat' first
  | (with_reducible exact ih0 _ _ _)
  | (with_reducible exact LeO.refl _)
  | (with_reducible refine LeO.ite ?_ ?_)
theorem laws_zzFits2.calls (k : Nat) (A0 : Option Addr) (c0 : Nat) (l0 : List (List Int)) (r : Bool) (w : World) (hr0 : Kd.C (Kd.slice 5 (Kd.int .u8)) w A0 l0.length l0) (hc0 : l0.length ≤ c0) (h : laws_zzFits2.f k l0 = some r) :
 Calls Tryd.prog 12 #[.slice A0 l0.length c0] w fun e w' => e = .returned (.bool r) ∧ Drawn0 w w' := by
 have HR0 := Aside0.mk hr0
 have HC0 := Aside0.mk hc0
 clear hr0 hc0
 have H : (if (l0.length : Int) > 2147483647 then (some false) else (laws_zzFits2.l0 k l0 (l0.length : Int) 0)) = some r := h
 clear h
 by_cases c2 : (l0.length : Int) > 2147483647
 ·rw [if_pos c2] at H
  have c2b0 : decide (2147483647 < (l0.length : Int)) = true := decide_eq_true c2
  have c2b1 : decide (2147483647 < l0.length) = true := decide_eq_true (by omega)
  clear c2
  obtain rfl := Option.some.inj H
  go_enter Tryd.func12, Tryd.ntmps12
  go_wp2
  go_ret
  exact ⟨by first | rfl, by repeat (first | exact Drawn0.refl _)⟩
 ·rw [if_neg c2] at H
  have c2b0 : decide (2147483647 < (l0.length : Int)) = false := decide_eq_false c2
  have c2b1 : decide (2147483647 < l0.length) = false := decide_eq_false (by omega)
  clear c2
  have H' := Aside0.mk H
  clear H
  go_enter Tryd.func12, Tryd.ntmps12
  go_wp2
  try simp only [Act.put, List.setIfInBounds_toArray, List.set_cons_zero, List.set_cons_succ]
  go_loopg [10] k (fun kq v10 w' => ∃ (x10_1 : Int), v10 = .int .i64 x10_1 ∧ Aside0 (laws_zzFits2.l0 kq l0 (l0.length : Int) x10_1 = some r) ∧ Aside0 (kq ≤ k) ∧ Drawn0 w w')
  case atStart => exact ⟨(0), (by first | rfl), H', ⟨Nat.le_refl _⟩, by repeat (first | exact Drawn0.refl _)⟩
  case round =>
   clear H'
   try clear c1
   try clear c2
   try clear c2b0
   try clear c2b1
   try clear p2
   obtain ⟨x10_1, rfl, HA, HK1, ⟨m1, rfl⟩⟩ := hrel
   cases gk with
   | zero => exact absurd HA.out (by simp [laws_zzFits2.l0])
   | succ k1 =>
    have H := HA.out
    clear HA
    simp only [laws_zzFits2.l0] at H
    by_cases c3 : x10_1 < (l0.length : Int)
    ·rw [if_pos c3] at H
     have c3b0 : decide (x10_1 < (l0.length : Int)) = true := decide_eq_true c3
     clear c3
     by_cases c4 : 0 ≤ x10_1
     ·rw [if_pos c4] at H
      have c4b0 : decide (0 ≤ x10_1) = true := decide_eq_true c4
      clear c4
      by_cases c5 : x10_1 < (l0.length : Int)
      ·rw [if_pos c5] at H
       have c5b0 : decide (x10_1 < (l0.length : Int)) = true := decide_eq_true c5
       clear c5
       by_cases c6 : ((rd_L1 l0 x10_1).length : Int) > 2147483647
       ·rw [if_pos c6] at H
        have c6b0 : decide (2147483647 < ((rd_L1 l0 x10_1).length : Int)) = true := decide_eq_true c6
        have c6b1 : decide (2147483647 < (rd_L1 l0 x10_1).length) = true := decide_eq_true (by omega)
        clear c6
        obtain rfl := Option.some.inj H
        have p213 : 0 ≤ (x10_1 : Int) := of_decide_eq_true (by first | (with_reducible assumption))
        have q213 : x10_1 < (l0.length : Int) := of_decide_eq_true (by first | (with_reducible assumption))
        obtain ⟨ad213, A213_0, c213_0, e213, hx213_0, hl213_0, hi213_0⟩ := at_L1 HR0.out x10_1 p213 q213
        cases e213
        have HR213_0 := Aside0.mk hi213_0
        have HC213_0 := Aside0.mk hl213_0
        clear hi213_0 hl213_0
        replace p213 := eq_true p213
        replace q213 := eq_true q213
        go_wp2
        go_ret
        exact ⟨by first | rfl, by repeat (first | exact Drawn0.refl _ | apply Drawn0.step)⟩
       ·rw [if_neg c6] at H
        have c6b0 : decide (2147483647 < ((rd_L1 l0 x10_1).length : Int)) = false := decide_eq_false c6
        have c6b1 : decide (2147483647 < (rd_L1 l0 x10_1).length) = false := decide_eq_false (by omega)
        clear c6
        have H' := Aside0.mk H
        clear H
        have p213 : 0 ≤ (x10_1 : Int) := of_decide_eq_true (by first | (with_reducible assumption))
        have q213 : x10_1 < (l0.length : Int) := of_decide_eq_true (by first | (with_reducible assumption))
        obtain ⟨ad213, A213_0, c213_0, e213, hx213_0, hl213_0, hi213_0⟩ := at_L1 HR0.out x10_1 p213 q213
        cases e213
        have HR213_0 := Aside0.mk hi213_0
        have HC213_0 := Aside0.mk hl213_0
        clear hi213_0 hl213_0
        replace p213 := eq_true p213
        replace q213 := eq_true q213
        go_wp2
        go_roundg k1
        case measure => have := HK1.out; omega
        case rel => exact ⟨(wrap64 (x10_1 + 1)), (by first | rfl), H', ⟨by have := HK1.out; omega⟩, by repeat (first | exact Drawn0.refl _ | apply Drawn0.step)⟩
      ·rw [if_neg c5] at H
       exact absurd H (by simp)
     ·rw [if_neg c4] at H
      exact absurd H (by simp)
    ·rw [if_neg c3] at H
     have c3b0 : decide (x10_1 < (l0.length : Int)) = false := decide_eq_false c3
     clear c3
     obtain rfl := Option.some.inj H
     go_wp2
     go_ret
     exact ⟨by first | rfl, by repeat (first | exact Drawn0.refl _ | apply Drawn0.step)⟩
def laws_logSmall.l0 : Nat → List (List Int) → List (List Int) → Int → Int → Option (Bool)
 | 0, _, _, _, _ => none
 | k + 1, x0, x5, x6, x7 => if x7 < x6 then (if 0 ≤ x7 then (if x7 < (x5.length : Int) then (if ((rd_L1 x5 x7).length : Int) > 5000 then (some false) else (laws_logSmall.l0 k x0 x5 x6 (wrap64 (x7 + 1)))) else (none)) else (none)) else (some (decide ((x0.length : Int) ≤ 300)))
def laws_logSmall.f (k : Nat) (l0 : List (List Int)) : Option (Bool) := laws_logSmall.l0 k l0 l0 (l0.length : Int) 0
theorem laws_logSmall.mono_l : ∀ k, (∀ y0 y1 y2 y3, LeO (laws_logSmall.l0 k y0 y1 y2 y3) (laws_logSmall.l0 (k + 1) y0 y1 y2 y3))
 | 0 => fun _ _ _ _ r h => by simp [laws_logSmall.l0] at h
 | k + 1 => by
  have ih0 := laws_logSmall.mono_l k
  ·intro y0 y1 y2 y3
   unfold laws_logSmall.l0
   repeat' first
   | (with_reducible exact ih0 _ _ _ _)
   | (with_reducible exact LeO.refl _)
   | (with_reducible refine LeO.ite ?_ ?_)
theorem laws_logSmall.mono : ∀ a0 k, LeO (laws_logSmall.f k a0) (laws_logSmall.f (k + 1) a0) := by
 intro a0 k
 have ih0 := laws_logSmall.mono_l k
 unfold laws_logSmall.f
 repeat' first
  | (with_reducible exact ih0 _ _ _ _)
theorem laws_logSmall.calls (k : Nat) (A0 : Option Addr) (c0 : Nat) (l0 : List (List Int)) (r : Bool) (w : World) (hr0 : Kd.C (Kd.slice 5 (Kd.int .u8)) w A0 l0.length l0) (hc0 : l0.length ≤ c0) (h : laws_logSmall.f k l0 = some r) :
 Calls Tryd.prog 13 #[.slice A0 l0.length c0] w fun e w' => e = .returned (.bool r) ∧ Drawn0 w w' := by
 have HR0 := Aside0.mk hr0
 have HC0 := Aside0.mk hc0
 clear hr0 hc0
 have H : (laws_logSmall.l0 k l0 l0 (l0.length : Int) 0) = some r := h
 clear h
 have H' := Aside0.mk H
 clear H
 go_enter Tryd.func13, Tryd.ntmps13
 go_wp2
 try simp only [Act.put, List.setIfInBounds_toArray, List.set_cons_zero, List.set_cons_succ]
 go_loopg [7] k (fun kq v7 w' => ∃ (x7_1 : Int), v7 = .int .i64 x7_1 ∧ Aside0 (laws_logSmall.l0 kq l0 l0 (l0.length : Int) x7_1 = some r) ∧ Aside0 (kq ≤ k) ∧ Drawn0 w w')
 case atStart => exact ⟨(0), (by first | rfl), H', ⟨Nat.le_refl _⟩, by repeat (first | exact Drawn0.refl _)⟩
 case round =>
  clear H'
  try clear c1
  obtain ⟨x7_1, rfl, HA, HK1, ⟨m1, rfl⟩⟩ := hrel
  cases gk with
  | zero => exact absurd HA.out (by simp [laws_logSmall.l0])
  | succ k1 =>
   have H := HA.out
   clear HA
   simp only [laws_logSmall.l0] at H
   by_cases c2 : x7_1 < (l0.length : Int)
   ·rw [if_pos c2] at H
    have c2b0 : decide (x7_1 < (l0.length : Int)) = true := decide_eq_true c2
    clear c2
    by_cases c3 : 0 ≤ x7_1
    ·rw [if_pos c3] at H
     have c3b0 : decide (0 ≤ x7_1) = true := decide_eq_true c3
     clear c3
     by_cases c4 : x7_1 < (l0.length : Int)
     ·rw [if_pos c4] at H
      have c4b0 : decide (x7_1 < (l0.length : Int)) = true := decide_eq_true c4
      clear c4
      by_cases c5 : ((rd_L1 l0 x7_1).length : Int) > 5000
      ·rw [if_pos c5] at H
       have c5b0 : decide (5000 < ((rd_L1 l0 x7_1).length : Int)) = true := decide_eq_true c5
       have c5b1 : decide (5000 < (rd_L1 l0 x7_1).length) = true := decide_eq_true (by omega)
       clear c5
       obtain rfl := Option.some.inj H
       have p214 : 0 ≤ (x7_1 : Int) := of_decide_eq_true (by first | (with_reducible assumption))
       have q214 : x7_1 < (l0.length : Int) := of_decide_eq_true (by first | (with_reducible assumption))
       obtain ⟨ad214, A214_0, c214_0, e214, hx214_0, hl214_0, hi214_0⟩ := at_L1 HR0.out x7_1 p214 q214
       cases e214
       have HR214_0 := Aside0.mk hi214_0
       have HC214_0 := Aside0.mk hl214_0
       clear hi214_0 hl214_0
       replace p214 := eq_true p214
       replace q214 := eq_true q214
       go_wp2
       go_ret
       exact ⟨by first | rfl, by repeat (first | exact Drawn0.refl _ | apply Drawn0.step)⟩
      ·rw [if_neg c5] at H
       have c5b0 : decide (5000 < ((rd_L1 l0 x7_1).length : Int)) = false := decide_eq_false c5
       have c5b1 : decide (5000 < (rd_L1 l0 x7_1).length) = false := decide_eq_false (by omega)
       clear c5
       have H' := Aside0.mk H
       clear H
       have p214 : 0 ≤ (x7_1 : Int) := of_decide_eq_true (by first | (with_reducible assumption))
       have q214 : x7_1 < (l0.length : Int) := of_decide_eq_true (by first | (with_reducible assumption))
       obtain ⟨ad214, A214_0, c214_0, e214, hx214_0, hl214_0, hi214_0⟩ := at_L1 HR0.out x7_1 p214 q214
       cases e214
       have HR214_0 := Aside0.mk hi214_0
       have HC214_0 := Aside0.mk hl214_0
       clear hi214_0 hl214_0
       replace p214 := eq_true p214
       replace q214 := eq_true q214
       go_wp2
       go_roundg k1
       case measure => have := HK1.out; omega
       case rel => exact ⟨(wrap64 (x7_1 + 1)), (by first | rfl), H', ⟨by have := HK1.out; omega⟩, by repeat (first | exact Drawn0.refl _ | apply Drawn0.step)⟩
     ·rw [if_neg c4] at H
      exact absurd H (by simp)
    ·rw [if_neg c3] at H
     exact absurd H (by simp)
   ·rw [if_neg c2] at H
    have c2b0 : decide (x7_1 < (l0.length : Int)) = false := decide_eq_false c2
    clear c2
    obtain rfl := Option.some.inj H
    go_wp2
    go_ret
    exact ⟨by first | rfl, by repeat (first | exact Drawn0.refl _ | apply Drawn0.step)⟩
end Go.Proofs.YtielnphmcaecdaaDoor.PAll
namespace Go.Proofs.YtielnphmcaecdaaDoor.Num
open Go.RowKit Go.Proofs.YtielnphmcaecdaaDoorW.PrintWords Go.Proofs.YtielnphmcaecdaaDoorW.PrintLast Go.Proofs.YtielnphmcaecdaaDoorW.PrintMore
theorem wf_u64 {a : Int} (h : (Lit.int .u64 a).wf = true) : ∃ n : Nat, a = n ∧ n < 18446744073709551616 := by
 have h1 : 0 ≤ a ∧ a ≤ 18446744073709551615 := by simpa [Lit.wf, IntKind.min, IntKind.max, IntKind.signed, IntKind.bits] using h
 exact ⟨a.toNat, by omega, by omega⟩
theorem u64w (x : Int) : IntKind.u64.wrap x = x % 18446744073709551616 := by simp [IntKind.wrap, IntKind.bits, IntKind.signed]
theorem u64n (n : Nat) : IntKind.u64.wrap (n : Int) = ((n % 18446744073709551616 : Nat) : Int) := by rw [u64w]; omega
theorem u64in {n : Nat} (h : n < 18446744073709551616) : IntKind.u64.wrap (n : Int) = (n : Int) := by rw [u64w]; omega
theorem w64 {n : Nat} (h : n < 9223372036854775808) : wrap64 (n : Int) = (n : Int) := by unfold wrap64; omega
theorem and64 (a b : Nat) (ha : a < 18446744073709551616) (hb : b < 18446744073709551616) : Go.bits .and .u64 (a : Int) (b : Int) = ((a &&& b : Nat) : Int) := u64_and_nat a b ha hb
theorem xor64 (a b : Nat) (ha : a < 18446744073709551616) (hb : b < 18446744073709551616) : Go.bits .xor .u64 (a : Int) (b : Int) = ((a ^^^ b : Nat) : Int) := u64_xor_nat a b ha hb
theorem shr64 (a b : Nat) : shr .u64 (a : Int) (b : Int) = ((a / 2 ^ min b 64 : Nat) : Int) := by
 show (a : Int) / 2 ^ min ((b : Int).toNat) 64 = _
 rw [Int.toNat_natCast, Int.natCast_ediv, Int.natCast_pow]
 rfl
theorem shr64' (a b : Nat) (ha : a < 18446744073709551616) : shr .u64 (a : Int) (b : Int) = ((a / 2 ^ b : Nat) : Int) := by
 rw [shr64]
 by_cases h : b ≤ 64
 ·rw [Nat.min_eq_left h]
 ·rw [Nat.min_eq_right (by omega), Nat.div_eq_of_lt ha, Nat.div_eq_of_lt]
  have : 2 ^ 64 ≤ 2 ^ b := Nat.pow_le_pow_right (by omega) (by omega)
  omega
theorem shl64 (a b : Nat) (hb : b ≤ 64) : shl .u64 (a : Int) (b : Int) = ((a * 2 ^ b % 18446744073709551616 : Nat) : Int) := by
 show IntKind.u64.wrap ((a : Int) * 2 ^ min ((b : Int).toNat) 64) = _
 rw [Int.toNat_natCast, Nat.min_eq_left hb, u64w, Int.natCast_emod, Int.natCast_mul, Int.natCast_pow]
 rfl
theorem u64sub {a b : Nat} (h : b ≤ a) (ha : a < 18446744073709551616) : IntKind.u64.wrap ((a : Int) - (b : Int)) = ((a - b : Nat) : Int) := by
 rw [← Int.natCast_sub h]; exact u64in (by omega)
theorem u64add {a b : Nat} (h : a + b < 18446744073709551616) : IntKind.u64.wrap ((a : Int) + (b : Int)) = ((a + b : Nat) : Int) := by
 rw [← Int.natCast_add]; exact u64in h
theorem u64mul {a b : Nat} (h : a * b < 18446744073709551616) : IntKind.u64.wrap ((a : Int) * (b : Int)) = ((a * b : Nat) : Int) := by
 rw [← Int.natCast_mul]; exact u64in h
theorem pow_lt64 {k : Nat} (hk : k ≤ 63) : 2 ^ k < 18446744073709551616 :=
 Nat.lt_of_le_of_lt (Nat.pow_le_pow_right (by decide) hk) (by decide)
theorem shl_one {k : Nat} (hk : k ≤ 63) : shl .u64 1 (k : Int) = ((2 ^ k : Nat) : Int) := by
 have := shl64 1 k (by omega)
 rw [Nat.one_mul, Nat.mod_eq_of_lt (pow_lt64 hk)] at this
 exact this
end Go.Proofs.YtielnphmcaecdaaDoor.Num
namespace Go.Proofs.YtielnphmcaecdaaDoor.Mth
def blen (n : Nat) : Nat := if n = 0 then 0 else blen (n / 2) + 1
def ones (n : Nat) : Nat := if n = 0 then 0 else n % 2 + ones (n / 2)
theorem blen_zero : blen 0 = 0 := by rw [blen, if_pos rfl]
theorem blen_pos {n : Nat} (h : 0 < n) : blen n = blen (n / 2) + 1 := by rw [blen, if_neg (by omega)]
theorem ones_zero : ones 0 = 0 := by rw [ones, if_pos rfl]
theorem ones_half (n : Nat) : ones n = n % 2 + ones (n / 2) := by
 by_cases h : n = 0
 ·subst h; simp [ones_zero]
 ·rw [ones, if_neg h]
theorem lt_blen (n : Nat) : n < 2 ^ blen n := by
 induction n using Nat.strongRecOn with
 | _ n ih =>
 by_cases h : n = 0
 ·subst h; simp [blen_zero]
 ·have := ih (n / 2) (by omega)
  rw [blen_pos (by omega), Nat.pow_succ]; omega
theorem blen_le {n m : Nat} : blen n ≤ m ↔ n < 2 ^ m := by
 induction m generalizing n with
 | zero =>
  by_cases h : n = 0
  ·subst h; simp [blen_zero]
  ·rw [blen_pos (by omega)]; simp; omega
 | succ m ih =>
  by_cases h : n = 0
  ·subst h; simp [blen_zero, Nat.pow_pos]
  ·rw [blen_pos (by omega), Nat.pow_succ]
   have := ih (n := n / 2)
   omega
theorem xor_lt_iff (a b m : Nat) : a ^^^ b < 2 ^ m ↔ a / 2 ^ m = b / 2 ^ m := by
 constructor
 ·intro h
  have h1 := Nat.xor_div_two_pow (a := a) (b := b) (n := m)
  rw [Nat.div_eq_of_lt h] at h1
  have h2 : (a / 2 ^ m ^^^ b / 2 ^ m) ^^^ b / 2 ^ m = 0 ^^^ b / 2 ^ m := by rw [← h1]
  rwa [Nat.xor_assoc, Nat.xor_self, Nat.xor_zero, Nat.zero_xor] at h2
 ·intro h
  have h1 := Nat.xor_div_two_pow (a := a) (b := b) (n := m)
  rw [h, Nat.xor_self] at h1
  exact (Nat.div_eq_zero_iff_lt (Nat.two_pow_pos m)).1 h1
def fork (i n : Nat) : Nat := blen (i ^^^ n)
theorem fork_le {i n m : Nat} : fork i n ≤ m ↔ i / 2 ^ m = n / 2 ^ m := by rw [fork, blen_le, xor_lt_iff]
theorem fork_eq (i n : Nat) : i / 2 ^ fork i n = n / 2 ^ fork i n := fork_le.1 (Nat.le_refl _)
theorem fork_self (n : Nat) : fork n n = 0 := by rw [fork, Nat.xor_self, blen_zero]
theorem blen_lt64 {n : Nat} (h : n < 18446744073709551616) : blen n ≤ 64 := blen_le.2 h
theorem ones_le (n k : Nat) (h : n < 2 ^ k) : ones n ≤ k := by
 induction k generalizing n with
 | zero =>
  have : n = 0 := by simpa using h
  subst this; simp [ones_zero]
 | succ k ih =>
  have := ih (n / 2) (by rw [Nat.pow_succ] at h; omega)
  rw [ones_half]; omega
theorem and_split (x a b : Nat) (ha : a < 256) : x &&& (a + 256 * b) = (x % 256 &&& a) + 256 * (x / 256 &&& b) := by
 have h1 := Nat.and_div_two_pow (a := x) (b := a + 256 * b) (n := 8)
 have h2 := Nat.and_mod_two_pow (a := x) (b := a + 256 * b) (n := 8)
 rw [show (2 : Nat) ^ 8 = 256 from rfl] at h1 h2
 rw [show (a + 256 * b) / 256 = b by omega] at h1
 rw [show (a + 256 * b) % 256 = a by omega] at h2
 omega
def msk (v : Nat) : Nat → Nat
 | 0 => 0
 | k + 1 => v + 256 * msk v k
def st1 (k x : Nat) : Nat := (x / 2 &&& msk 85 k) + (x &&& msk 85 k)
def st2 (k x : Nat) : Nat := (x / 4 &&& msk 51 k) + (x &&& msk 51 k)
def st3 (k x : Nat) : Nat := (x / 16 + x) &&& msk 15 k
theorem byte1 : ∀ b < 2, ∀ c < 256, (c / 2 + 128 * b) &&& 85 = c / 2 &&& 85 := by decide +kernel
theorem byte2 : ∀ b < 4, ∀ c < 256, (c / 4 + 64 * b) &&& 51 = c / 4 &&& 51 := by decide +kernel
def by1 (c : Nat) : Nat := (c / 2 &&& 85) + (c &&& 85)
def by2 (c : Nat) : Nat := (c / 4 &&& 51) + (c &&& 51)
theorem byte3 : ∀ c < 256, by1 c < 256 ∧ by2 (by1 c) ≤ 68 ∧ by2 (by1 c) % 16 ≤ 4 ∧ (by2 (by1 c) / 16 + by2 (by1 c)) % 16 = ones c ∧ ones c ≤ 8 := by decide +kernel
theorem st1_step (k x : Nat) : st1 (k + 1) x = by1 (x % 256) + 256 * st1 k (x / 256) := by
 have h := byte1 (x / 256 % 2) (by omega) (x % 256) (by omega)
 unfold st1 by1
 rw [show msk 85 (k + 1) = 85 + 256 * msk 85 k from rfl]
 rw [and_split _ _ _ (by omega), and_split _ _ _ (by omega), show x / 2 % 256 = x % 256 / 2 + 128 * (x / 256 % 2) by omega, h, show x / 2 / 256 = x / 256 / 2 by omega]
 omega
theorem st2_step (k x : Nat) : st2 (k + 1) x = by2 (x % 256) + 256 * st2 k (x / 256) := by
 have h := byte2 (x / 256 % 4) (by omega) (x % 256) (by omega)
 unfold st2 by2
 rw [show msk 51 (k + 1) = 51 + 256 * msk 51 k from rfl]
 rw [and_split _ _ _ (by omega), and_split _ _ _ (by omega), show x / 4 % 256 = x % 256 / 4 + 64 * (x / 256 % 4) by omega, h, show x / 4 / 256 = x / 256 / 4 by omega]
 omega
theorem ones_byte (k x : Nat) : ones (x % 2 ^ (k + 1)) = x % 2 + ones (x / 2 % 2 ^ k) := by
 rw [ones_half, Nat.pow_succ, Nat.mul_comm, Nat.mod_mul]
 have : 2 * (x / 2 % 2 ^ k) + x % 2 = x % 2 + 2 * (x / 2 % 2 ^ k) := by omega
 rw [show (x % 2 + 2 * (x / 2 % 2 ^ k)) / 2 = x / 2 % 2 ^ k by omega, show (x % 2 + 2 * (x / 2 % 2 ^ k)) % 2 = x % 2 by omega]
theorem ones_split (k x : Nat) : ones x = ones (x % 2 ^ k) + ones (x / 2 ^ k) := by
 induction k generalizing x with
 | zero => simp [Nat.mod_one, ones_zero]
 | succ k ih =>
  rw [ones_byte, ones_half x, ih (x / 2), Nat.div_div_eq_div_mul, Nat.pow_succ, Nat.mul_comm 2]; omega
def cnt : Nat → Nat → Nat
 | 0, _ => 0
 | k + 1, x => ones (x % 256) + 256 * cnt k (x / 256)
theorem st2_low (k x : Nat) : st2 k (st1 k x) % 16 ≤ 4 := by
 cases k with
 | zero => simp [st2, st1, msk]
 | succ k =>
  have h := byte3 (x % 256) (by omega)
  rw [st1_step, st2_step, show (by1 (x % 256) + 256 * st1 k (x / 256)) % 256 = by1 (x % 256) by omega]
  omega
theorem st3_all (k x : Nat) : st3 k (st2 k (st1 k x)) = cnt k x := by
 induction k generalizing x with
 | zero => simp [st3, msk, cnt]
 | succ k ih =>
  have h := byte3 (x % 256) (by omega)
  have hl := st2_low k (x / 256)
  rw [st1_step, st2_step, show (by1 (x % 256) + 256 * st1 k (x / 256)) % 256 = by1 (x % 256) by omega, show (by1 (x % 256) + 256 * st1 k (x / 256)) / 256 = st1 k (x / 256) by omega, cnt, ← ih (x / 256)]
  generalize hy : st2 k (st1 k (x / 256)) = y at *
  generalize hc : by2 (by1 (x % 256)) = c at *
  unfold st3
  rw [show msk 15 (k + 1) = 15 + 256 * msk 15 k from rfl]
  have e1 : ((c + 256 * y) / 16 + (c + 256 * y)) / 256 = y / 16 + y := by omega
  have e2 : ((c + 256 * y) / 16 + (c + 256 * y)) % 256 = c / 16 + c + 16 * (y % 16) := by omega
  rw [and_split _ _ _ (by omega), e1, e2]
  have e3 : (c / 16 + c + 16 * (y % 16)) &&& 15 = (c / 16 + c) % 16 := by
   have := Nat.and_two_pow_sub_one_eq_mod (c / 16 + c + 16 * (y % 16)) 4
   rw [show (2 : Nat) ^ 4 - 1 = 15 from rfl] at this
   rw [this]; omega
  rw [e3]; omega
theorem div_of {a m : Nat} (r : Nat) (h : a < m) : (a + m * r) / m = r := by rw [Nat.add_mul_div_left _ _ (by omega), Nat.div_eq_of_lt h, Nat.zero_add]
theorem lin1 (c0 c1 c2 c3 c4 c5 c6 c7 : Nat) : (c0 + 256 * (c1 + 256 * (c2 + 256 * (c3 + 256 * (c4 + 256 * (c5 + 256 * (c6 + 256 * (c7 + 256 * 0)))))))) + (c1 + 256 * (c2 + 256 * (c3 + 256 * (c4 + 256 * (c5 + 256 * (c6 + 256 * (c7 + 256 * 0)))))))
 = ((c0 + c1) + 256 * (c1 + c2)) + 65536 * ((c2 + c3) + 256 * (c3 + c4) + 65536 * ((c4 + c5) + 256 * (c5 + c6) + 65536 * ((c6 + c7) + 256 * c7))) := by omega
theorem lin2 (c0 c1 c2 c3 c4 c5 c6 c7 : Nat) : (((c0 + c1) + 256 * (c1 + c2)) + 65536 * ((c2 + c3) + 256 * (c3 + c4) + 65536 * ((c4 + c5) + 256 * (c5 + c6) + 65536 * ((c6 + c7) + 256 * c7)))) + ((c2 + c3) + 256 * (c3 + c4) + 65536 * ((c4 + c5) + 256 * (c5 + c6) + 65536 * ((c6 + c7) + 256 * c7)))
 = ((c0 + c1 + c2 + c3) + 256 * (c1 + c2 + c3 + c4) + 65536 * (c2 + c3 + c4 + c5) + 16777216 * (c3 + c4 + c5 + c6)) + 4294967296 * ((c4 + c5 + c6 + c7) + 256 * (c5 + c6 + c7) + 65536 * (c6 + c7) + 16777216 * c7) := by omega
theorem lin3 (c0 c1 c2 c3 c4 c5 c6 c7 : Nat) : (((c0 + c1 + c2 + c3) + 256 * (c1 + c2 + c3 + c4) + 65536 * (c2 + c3 + c4 + c5) + 16777216 * (c3 + c4 + c5 + c6)) + 4294967296 * ((c4 + c5 + c6 + c7) + 256 * (c5 + c6 + c7) + 65536 * (c6 + c7) + 16777216 * c7)) + ((c4 + c5 + c6 + c7) + 256 * (c5 + c6 + c7) + 65536 * (c6 + c7) + 16777216 * c7)
 = (c0 + (c1 + (c2 + (c3 + (c4 + (c5 + (c6 + c7))))))) + 128 * (2 * (c1 + c2 + c3 + c4) + 512 * (c2 + c3 + c4 + c5) + 131072 * (c3 + c4 + c5 + c6) + 33554432 * ((c4 + c5 + c6 + c7) + 256 * (c5 + c6 + c7) + 65536 * (c6 + c7) + 16777216 * c7) + 2 * (c5 + c6 + c7) + 512 * (c6 + c7) + 131072 * c7) := by omega
theorem spread (c0 c1 c2 c3 c4 c5 c6 c7 : Nat) (b0 : c0 ≤ 8) (b1 : c1 ≤ 8) (b2 : c2 ≤ 8) (b3 : c3 ≤ 8) (b4 : c4 ≤ 8) (b5 : c5 ≤ 8) (b6 : c6 ≤ 8) (b7 : c7 ≤ 8) :
 let y := c0 + 256 * (c1 + 256 * (c2 + 256 * (c3 + 256 * (c4 + 256 * (c5 + 256 * (c6 + 256 * (c7 + 256 * 0)))))))
 let y1 := y + y / 256; let y2 := y1 + y1 / 65536; let y3 := y2 + y2 / 4294967296
 y3 % 128 = c0 + (c1 + (c2 + (c3 + (c4 + (c5 + (c6 + c7)))))) ∧ y3 < 9223372036854775808 ∧ y2 < 18446744073709551616 ∧ y1 < 18446744073709551616 ∧ y < 18446744073709551616 := by
 dsimp only
 rw [div_of (a := c0) (m := 256) _ (by omega), lin1, div_of (m := 65536) _ (by omega), lin2, div_of (m := 4294967296) _ (by omega), lin3, Nat.add_mul_mod_self_left]
 refine ⟨Nat.mod_eq_of_lt (by omega), by omega, by omega, by omega, by omega⟩
theorem swar (x : Nat) (hx : x < 18446744073709551616) : let y := cnt 8 x; let y1 := y + y / 256; let y2 := y1 + y1 / 65536; let y3 := y2 + y2 / 4294967296; y3 % 128 = ones x ∧ y3 < 9223372036854775808 ∧ y2 < 18446744073709551616 ∧ y1 < 18446744073709551616 ∧ y < 18446744073709551616 := by
 have s0 := ones_split 8 x
 have s1 := ones_split 8 (x / 256)
 have s2 := ones_split 8 (x / 256 / 256)
 have s3 := ones_split 8 (x / 256 / 256 / 256)
 have s4 := ones_split 8 (x / 256 / 256 / 256 / 256)
 have s5 := ones_split 8 (x / 256 / 256 / 256 / 256 / 256)
 have s6 := ones_split 8 (x / 256 / 256 / 256 / 256 / 256 / 256)
 rw [show (2 : Nat) ^ 8 = 256 from rfl] at s0 s1 s2 s3 s4 s5 s6
 have e7 : x / 256 / 256 / 256 / 256 / 256 / 256 / 256 % 256 = x / 256 / 256 / 256 / 256 / 256 / 256 / 256 := by omega
 have b0 := (byte3 (x % 256) (by omega)).2.2.2.2
 have b1 := (byte3 (x / 256 % 256) (by omega)).2.2.2.2
 have b2 := (byte3 (x / 256 / 256 % 256) (by omega)).2.2.2.2
 have b3 := (byte3 (x / 256 / 256 / 256 % 256) (by omega)).2.2.2.2
 have b4 := (byte3 (x / 256 / 256 / 256 / 256 % 256) (by omega)).2.2.2.2
 have b5 := (byte3 (x / 256 / 256 / 256 / 256 / 256 % 256) (by omega)).2.2.2.2
 have b6 := (byte3 (x / 256 / 256 / 256 / 256 / 256 / 256 % 256) (by omega)).2.2.2.2
 have b7 := (byte3 (x / 256 / 256 / 256 / 256 / 256 / 256 / 256 % 256) (by omega)).2.2.2.2
 simp only [cnt]
 rw [e7] at b7 ⊢
 generalize ones (x % 256) = c0 at *
 generalize ones (x / 256 % 256) = c1 at *
 generalize ones (x / 256 / 256 % 256) = c2 at *
 generalize ones (x / 256 / 256 / 256 % 256) = c3 at *
 generalize ones (x / 256 / 256 / 256 / 256 % 256) = c4 at *
 generalize ones (x / 256 / 256 / 256 / 256 / 256 % 256) = c5 at *
 generalize ones (x / 256 / 256 / 256 / 256 / 256 / 256 % 256) = c6 at *
 generalize ones (x / 256 / 256 / 256 / 256 / 256 / 256 / 256) = c7 at *
 rw [s0, s1, s2, s3, s4, s5, s6]
 clear s0 s1 s2 s3 s4 s5 s6 e7 hx
 exact spread c0 c1 c2 c3 c4 c5 c6 c7 b0 b1 b2 b3 b4 b5 b6 b7
def psplit (n : Nat) : Nat := 2 ^ (blen (n - 1) - 1)
theorem blen_unique {n j : Nat} (h1 : 2 ^ j ≤ n) (h2 : n < 2 ^ (j + 1)) : blen n = j + 1 := by
 have h3 := blen_le.2 h2
 have h4 : ¬ blen n ≤ j := fun h => by have := blen_le.1 h; omega
 omega
theorem pow_blen_le {n : Nat} (h : 0 < n) : 2 ^ (blen n - 1) ≤ n := by
 have h1 : ¬ blen n ≤ blen n - 1 := by have := blen_pos h; omega
 rw [blen_le] at h1; omega
theorem psplit_lt {n : Nat} (h : 2 ≤ n) : psplit n < n := by
 have := pow_blen_le (n := n - 1) (by omega)
 unfold psplit; omega
theorem psplit_pos (n : Nat) : 0 < psplit n := Nat.two_pow_pos _
theorem le_psplit {n : Nat} (h : 2 ≤ n) : n ≤ 2 * psplit n := by
 have h1 := lt_blen (n - 1)
 have h2 := blen_pos (n := n - 1) (by omega)
 unfold psplit
 rw [show blen (n - 1) = blen (n - 1) - 1 + 1 by omega, Nat.pow_succ] at h1
 omega
theorem psplit_unique {n j : Nat} (h1 : 2 ^ j < n) (h2 : n ≤ 2 * 2 ^ j) : psplit n = 2 ^ j := by
 unfold psplit
 rw [blen_unique (j := j) (by omega) (by rw [Nat.pow_succ]; omega)]; rfl
theorem psplit_pow (k : Nat) : psplit (2 ^ (k + 1)) = 2 ^ k := psplit_unique (by rw [Nat.pow_succ]; have := Nat.two_pow_pos k; omega) (by rw [Nat.pow_succ]; omega)
def path (i b e : Nat) : List (Nat × Nat) :=
 if _h : e - b ≤ 1 then []
 else if i < b + psplit (e - b) then path i b (b + psplit (e - b)) ++ [(b + psplit (e - b), e)]
 else path i (b + psplit (e - b)) e ++ [(b, b + psplit (e - b))]
termination_by e - b
decreasing_by
 ·have := psplit_lt (n := e - b) (by omega); omega
 ·have := psplit_lt (n := e - b) (by omega); have := psplit_pos (e - b); omega
theorem path_one {i b e : Nat} (h : e - b ≤ 1) : path i b e = [] := by rw [path, dif_pos h]
theorem path_left {i b e : Nat} (h : 2 ≤ e - b) (hi : i < b + psplit (e - b)) : path i b e = path i b (b + psplit (e - b)) ++ [(b + psplit (e - b), e)] := by rw [path, dif_neg (by omega), if_pos hi]
theorem path_right {i b e : Nat} (h : 2 ≤ e - b) (hi : b + psplit (e - b) ≤ i) : path i b e = path i (b + psplit (e - b)) e ++ [(b, b + psplit (e - b))] := by rw [path, dif_neg (by omega), if_neg (by omega)]
theorem path_len (i b e : Nat) : (path i b e).length ≤ blen (e - b - 1) := by
 induction hn : e - b using Nat.strongRecOn generalizing b e with
 | _ n ih =>
 subst hn
 by_cases h : e - b ≤ 1
 ·rw [path_one h]; simp
 ·have h1 := psplit_lt (n := e - b) (by omega)
  have h2 := psplit_pos (e - b)
  have h3 := le_psplit (n := e - b) (by omega)
  have hL := blen_pos (n := e - b - 1) (by omega)
  have hp : psplit (e - b) = 2 ^ (blen (e - b - 1) - 1) := rfl
  by_cases hi : i < b + psplit (e - b)
  ·rw [path_left (by omega) hi, List.length_append]
   have := ih (b + psplit (e - b) - b) (by omega) b (b + psplit (e - b)) rfl
   have h4 : blen (b + psplit (e - b) - b - 1) ≤ blen (e - b - 1) - 1 := blen_le.2 (by omega)
   simp; omega
  ·rw [path_right (by omega) (by omega), List.length_append]
   have := ih (e - (b + psplit (e - b))) (by omega) (b + psplit (e - b)) e rfl
   have h4 : blen (e - (b + psplit (e - b)) - 1) ≤ blen (e - b - 1) - 1 := blen_le.2 (by omega)
   simp; omega
theorem path_len_pow (k i b : Nat) : (path i b (b + 2 ^ k)).length = k := by
 induction k generalizing b with
 | zero => rw [path_one (by simp)]; rfl
 | succ k ih =>
  have hk := Nat.two_pow_pos k
  have e1 : b + 2 ^ (k + 1) - b = 2 ^ (k + 1) := by omega
  have e2 : 2 ^ (k + 1) = 2 * 2 ^ k := by rw [Nat.pow_succ, Nat.mul_comm]
  by_cases hi : i < b + 2 ^ k
  ·rw [path_left (by omega) (by rw [e1, psplit_pow]; exact hi), e1, psplit_pow, List.length_append, ih]; rfl
  ·rw [path_right (by omega) (by rw [e1, psplit_pow]; omega), e1, psplit_pow, List.length_append]
   rw [show b + 2 ^ (k + 1) = (b + 2 ^ k) + 2 ^ k by omega, ih]; rfl
end Go.Proofs.YtielnphmcaecdaaDoor.Mth
namespace Go.Proofs.YtielnphmcaecdaaDoor.PAll
open Go.RowKit Go.Proofs.YtielnphmcaecdaaDoor.Mth Go.Proofs.YtielnphmcaecdaaDoorW.PrintWords Go.Proofs.YtielnphmcaecdaaDoorW.PrintLast Go.Proofs.YtielnphmcaecdaaDoorW.PrintMore
theorem grown_from {W W' w5 : World} {row : Option Nat} (hb : Below W.heap.size W W') (hg : W'.grownBy w5 row) : W.grownBy w5 row :=
 ⟨hg.os.trans hb.os, hg.tape.trans hb.tape, hg.output.trans hb.output, Nat.le_trans hb.size hg.size, fun k hk hne => (hg.block k (Nat.lt_of_lt_of_le hk hb.size) hne).trans (hb.block k hk)⟩
theorem hat_from {W W' : World} {v v5 : Value} (hb : Below W.heap.size W W') (h : v5.ownBlock = v.ownBlock ∨ ∃ b, v5.ownBlock = some b ∧ W'.heap.size ≤ b) : v5.ownBlock = v.ownBlock ∨ ∃ b, v5.ownBlock = some b ∧ W.heap.size ≤ b := by
 rcases h with h | ⟨b, h1, h2⟩
 ·exact .inl h
 ·exact .inr ⟨b, h1, Nat.le_trans hb.size h2⟩
end Go.Proofs.YtielnphmcaecdaaDoor.PAll
namespace Go.Proofs.YtielnphmcaecdaaDoor.PAll
open Go.IntWalk Go.RowKit Go.Proofs.YtielnphmcaecdaaDoorW.PrintWords Go.Proofs.YtielnphmcaecdaaDoorW.PrintLast Go.Proofs.YtielnphmcaecdaaDoorW.PrintMore
structure RgAt (w : World) (tb p fq : Nat) (a0 a1 a2 a3 a4 a5 b e : Int) (A : Option Addr) (c : Nat) (ss : List SH) (xs : List (List Int)) : Prop where
 cell : w.heap[p]? = some (.cells #[.pointer (some ⟨fq, 0, none⟩), .int .u64 b, .int .u64 e, .slice A ss.length c] 148 (0, 0))
 fac : w.heap[fq]? = some (.cells #[.func (.func 50) #[toyV a0 a1 a2 a3 a4 a5] #[]] 92 (0, 0))
 row : Rw w tb (.slice A ss.length c) ss
 len : ss.length = xs.length
 txt : ∀ (j : Nat) (s : SH) (x : List Int), ss[j]? = some s → xs[j]? = some x → Txt tb w s x
theorem neq_nil (f q : Nat) (W : World) : (binOp BinOp.neq 149 (Value.func (Fn.func f) #[] #[.pointer (some ⟨q, 0, none⟩)]) Value.nilFunc).run Tryd.prog W = .ok (.bool true) W := by kernel_rfl
theorem newNode.calls (lv ix : Int) (w : World) : Calls Tryd.prog 94 #[.int .u64 lv, .int .u64 ix] w fun e w' => e = .returned (.agg #[.int .u64 lv, .int .u64 ix]) ∧ Below w.heap.size w w' := by
 have hu99 := Tryd.underlying99
 go_enter Tryd.func94, Tryd.ntmps94
 go_wp2_with (fail)
 refine bodyPost_ret (results_cell_row rfl _ _ w.heap.size 99 #[.int .u64 lv, .int .u64 ix] (0, 0) _ rfl (blk_new w _) Tryd.underlying99 rfl (by kernel_rfl)) rfl ?_
 exact ⟨rfl, below_alloc (Below.refl w.heap.size w) _⟩
theorem ty_ne {w : World} {g g' t t' : Nat} {cs cs' : Array Value} (h : w.heap[g]? = some (.cells cs t (0, 0))) (h' : w.heap[g']? = some (.cells cs' t' (0, 0))) (hne : t ≠ t') : g ≠ g' := blk_ne h h' hne
theorem RgAt.vs {w w' : World} {tb p fq q : Nat} {a0 a1 a2 a3 a4 a5 b e : Int} {A : Option Addr} {c : Nat} {ss : List SH} {xs : List (List Int)} {SV : Array Value} (R : RgAt w tb p fq a0 a1 a2 a3 a4 a5 b e A c ss xs) (h : Vs q w w') (hq : w.heap[q]? = some (.cells SV 36 (0, 0))) : RgAt w' tb p fq a0 a1 a2 a3 a4 a5 b e A c ss xs where
 cell := h.blk R.cell (ty_ne R.cell hq (by decide)) (by decide)
 fac := h.blk R.fac (ty_ne R.fac hq (by decide)) (by decide)
 row := h.rw hq R.row
 len := R.len
 txt := fun j s x h1 h2 => (R.txt j s x h1 h2).pres (h.pres hq)
theorem RgAt.below {w w' : World} {tb p fq : Nat} {a0 a1 a2 a3 a4 a5 b e : Int} {A : Option Addr} {c : Nat} {ss : List SH} {xs : List (List Int)} (R : RgAt w tb p fq a0 a1 a2 a3 a4 a5 b e A c ss xs) (h : Below w.heap.size w w') : RgAt w' tb p fq a0 a1 a2 a3 a4 a5 b e A c ss xs where
 cell := blk_below R.cell h
 fac := blk_below R.fac h
 row := Kd.R_below R.row h
 len := R.len
 txt := fun j s x h1 h2 => (R.txt j s x h1 h2).pres (Pres5.below h)
structure Fx (p q : Nat) (row : Option Nat) (w w' : World) : Prop where
 os : w'.os = w.os
 tape : w'.tape = w.tape
 output : w'.output = w.output
 size : w.heap.size ≤ w'.heap.size
 block : ∀ k, k < w.heap.size → k ≠ p → k ≠ q → some k ≠ row → (∀ c, w.heap[k]? ≠ some (.cells c 51 (0, 0))) → w'.heap[k]? = w.heap[k]?
def visA (low : Nat) (ix : Nat → Int) (sds : Nat → List Int) (D : Nat) : List S51 := (List.range D).map fun t => ⟨⟨((low + t + 1 : Nat) : Int), ix (t + 1)⟩, sds (t + 1)⟩
theorem visA_succ (low : Nat) (ix : Nat → Int) (sds : Nat → List Int) (D : Nat) : visA low ix sds (D + 1) = visA low ix sds D ++ [⟨⟨((low + D + 1 : Nat) : Int), ix (D + 1)⟩, sds (D + 1)⟩] := by
 unfold visA
 rw [List.range_succ, List.map_append]; rfl
def Appd (w w' : World) (tb p fq q : Nat) (a0 a1 a2 a3 a4 a5 b en : Int) (A : Option Addr) (c n : Nat) (xs : List (List Int)) (vs : List S51) : Prop :=
 ∃ A' c' ss' SV', RgAt w' tb p fq a0 a1 a2 a3 a4 a5 b en A' c' ss' xs ∧ w'.heap[q]? = some (.cells #[SV'] 36 (0, 0)) ∧ Kd.S k51 51 w' tb (fun _ => True) SV' vs ∧ Fx p q (Value.slice A n c).ownBlock w w' ∧ (∀ B, B ≤ tb → B ≤ q → B ≤ p → Below B w w') ∧
  ((Value.slice A' ss'.length c').ownBlock = (Value.slice A n c).ownBlock ∨ ∃ g, (Value.slice A' ss'.length c').ownBlock = some g ∧ w.heap.size ≤ g)
theorem grown_two {w w1 w2 : World} {r0 : Option Nat} {v1 : Value} (h1 : w.grownBy w1 r0) (hat : v1.ownBlock = r0 ∨ ∃ g, v1.ownBlock = some g ∧ w.heap.size ≤ g) (h2 : w1.grownBy w2 v1.ownBlock) : w.grownBy w2 r0 :=
 ⟨h2.os.trans h1.os, h2.tape.trans h1.tape, h2.output.trans h1.output, Nat.le_trans h1.size h2.size, fun k hk hne => (h2.block k (Nat.lt_of_lt_of_le hk h1.size) (fun e => by
  rcases hat with h | ⟨g, hg, hle⟩
  ·exact hne (e.trans h)
  ·rw [hg] at e; injection e with e; omega)).trans (h1.block k hk hne)⟩
theorem hat_two {w w1 : World} {r0 : Option Nat} {v1 v2 : Value} (hs : w.heap.size ≤ w1.heap.size) (hat : v1.ownBlock = r0 ∨ ∃ g, v1.ownBlock = some g ∧ w.heap.size ≤ g) (hat2 : v2.ownBlock = v1.ownBlock ∨ ∃ g, v2.ownBlock = some g ∧ w1.heap.size ≤ g) : v2.ownBlock = r0 ∨ ∃ g, v2.ownBlock = some g ∧ w.heap.size ≤ g := by
 rcases hat2 with h | ⟨g, hg, hle⟩
 ·rw [h]; exact hat
 ·exact .inr ⟨g, hg, by omega⟩
theorem txt_snoc {w : World} {tb : Nat} {ss : List SH} {xs : List (List Int)} {s : SH} {x : List Int} (hl : ss.length = xs.length) (h : ∀ (j : Nat) (s : SH) (x : List Int), ss[j]? = some s → xs[j]? = some x → Txt tb w s x) (hx : Txt tb w s x) (m : Nat) (hm : m ≤ ss.length) :
 ∀ (j : Nat) (s' : SH) (x' : List Int), (ss.take m ++ [s])[j]? = some s' → (xs.take m ++ [x])[j]? = some x' → Txt tb w s' x' := by
 intro j s' x' h1 h2
 have l1 : (ss.take m).length = m := by rw [List.length_take]; omega
 have l2 : (xs.take m).length = m := by rw [List.length_take]; omega
 by_cases e : j < m
 ·rw [List.getElem?_append_left (by omega), List.getElem?_take, if_pos e] at h1 h2
  exact h j s' x' h1 h2
 ·have e2 : j = m := by
   have := (List.getElem?_eq_some_iff.1 h1).1
   rw [List.length_append, List.length_singleton] at this; omega
  subst e2
  rw [List.getElem?_append_right (by omega), l1, Nat.sub_self] at h1
  rw [List.getElem?_append_right (by omega), l2, Nat.sub_self] at h2
  obtain rfl := Option.some.inj h1
  obtain rfl := Option.some.inj h2
  exact hx
theorem own_at (A : Option Addr) (n m c d : Nat) : (Value.slice A n c).ownBlock = (Value.slice A m d).ownBlock := by cases A <;> rfl
end Go.Proofs.YtielnphmcaecdaaDoor.PAll
namespace Go.Proofs.YtielnphmcaecdaaDoor.PAll
open Go.RowKit Go.Proofs.YtielnphmcaecdaaDoor.Mth Go.Proofs.YtielnphmcaecdaaDoorW.PrintWords Go.Proofs.YtielnphmcaecdaaDoorW.PrintLast Go.Proofs.YtielnphmcaecdaaDoorW.PrintMore
def foldR_ (F : List Int → List Int → Option (List Int)) : List (List Int) → Option (List Int)
 | [] => none
 | [x] => some x
 | x :: y :: l => (foldR_ F (y :: l)).bind fun t => F x t
theorem foldR_cons {F : List Int → List Int → Option (List Int)} {x : List Int} {l : List (List Int)} (h : l ≠ []) : foldR_ F (x :: l) = (foldR_ F l).bind fun t => F x t := by
 cases l with
 | nil => exact absurd rfl h
 | cons y l => rfl
end Go.Proofs.YtielnphmcaecdaaDoor.PAll
