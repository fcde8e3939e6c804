-- Written by a program of this session (wip/tools)
import Derived.Test.YtielnphmcaecdaaDoorQIMPAllx6
import Derived.Test.YtielnphmcaecdaaDoorQIMExtRehash
import Derived.Deep.RegionHeldLaw
namespace Go.Proofs.YtielnphmcaecdaaDoor.PAll
open Go.IntWalk Go.RowKit Go.Proofs.YtielnphmcaecdaaDoorW.PrintWords Go.Proofs.YtielnphmcaecdaaDoorW.PrintLast Go.Proofs.YtielnphmcaecdaaDoorW.PrintMore
set_option linter.unusedVariables false
set_option linter.unusedSimpArgs false
def TxF (ok : Nat → Prop) (w : World) (s : SH) (b : List Int) : Prop := s.2.1 = b.length ∧ b.length ≤ s.2.2 ∧ Kd.F (Kd.int .u8) w ok s.1 b.length b
theorem TxF.below {ok : Nat → Prop} {w w' : World} {s : SH} {b : List Int} (h : TxF ok w s b) (hb : Below w.heap.size w w') : TxF ok w' s b := ⟨h.1, h.2.1, Kd.F_below h.2.2 hb⟩
theorem TxF.mono {ok ok' : Nat → Prop} {w : World} {s : SH} {b : List Int} (h : TxF ok w s b) (hk : ∀ k, ok k → ok' k) : TxF ok' w s b := ⟨h.1, h.2.1, Kd.F_mono h.2.2 hk⟩
theorem TxF.step {ok : Nat → Prop} {w w' : World} {s : SH} {b : List Int} (h : TxF ok w s b) (hm : ∀ k, ok k → k < w.heap.size → w'.heap[k]? = w.heap[k]?) : TxF ok w' s b := ⟨h.1, h.2.1, Kd.F_step h.2.2 hm⟩
theorem TxF.at {ok : Nat → Prop} {w : World} {A : Option Addr} {n c : Nat} {b : List Int} (h : TxF ok w (A, n, c) b) : n = b.length ∧ b.length ≤ c ∧ Kd.C (Kd.int .u8) w A b.length b := ⟨h.1, h.2.1, Kd.F_now h.2.2⟩
def spec_Folded.f (k : Nat) (a0 a1 a2 a3 a4 a5 : Int) (l1 : List S49) (b1 b2 b3 b4 : Int) (l2 : List (List Int)) : Option (List (List Int)) :=
  if b3 = b4 then some l2 else if 0 ≤ b3 ∧ b3 < b4 ∧ b4 ≤ l2.length ∧ l2.length < 1000000000000 then (upB_ (spec_HashChildren.f k a0 a1 a2 a3 a4 a5) ((l2.take b4.toNat).drop (b3.toNat + 1)) (l2.getD b3.toNat [])).bind fun f => some (l2.take b3.toNat ++ f :: l2.drop b4.toNat) else none
theorem upB_mono' {H H' : List Int → List Int → Option (List Int)} (h : ∀ a b, LeO (H a b) (H' a b)) : ∀ l s, LeO (upB_ H l s) (upB_ H' l s)
  | [], s => LeO.refl _
  | x :: xs, s => LeO.bind (h x s) (fun t => upB_mono' h xs t)
theorem spec_Folded.mono : ∀ a0 a1 a2 a3 a4 a5 l1 b1 b2 b3 b4 l2 k, LeO (spec_Folded.f k a0 a1 a2 a3 a4 a5 l1 b1 b2 b3 b4 l2) (spec_Folded.f (k + 1) a0 a1 a2 a3 a4 a5 l1 b1 b2 b3 b4 l2) := by
  intro a0 a1 a2 a3 a4 a5 l1 b1 b2 b3 b4 l2 k
  unfold spec_Folded.f
  exact LeO.ite (LeO.refl _) (LeO.ite (LeO.bind (upB_mono' (fun a b => spec_HashChildren.mono _ _ _ _ _ _ _ _ _) _ _) (fun f => LeO.refl _)) (LeO.refl _))
end Go.Proofs.YtielnphmcaecdaaDoor.PAll
