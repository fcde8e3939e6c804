-- Written by a program of this session (wip/tools)
import Derived.Test.YtielnphmcaecdaaDoorQRMExtPushed
namespace Go.Proofs.YtielnphmcaecdaaDoor.PAll
open Go.RowKit Go.Proofs.YtielnphmcaecdaaDoorW.PrintWords Go.Proofs.YtielnphmcaecdaaDoorW.PrintLast Go.Proofs.YtielnphmcaecdaaDoorW.PrintMore
set_option linter.unusedVariables false
def spec_pushed.f (k : Nat) (a0 a1 a2 a3 a4 a5 : Int) (l : List S51) (lv ix : Int) (x : List Int) : Option (List S51 × List S51) :=
  if l.length < 1000000000 then (pushUp (spec_HashChildren.f k a0 a1 a2 a3 a4 a5) l.reverse ⟨⟨lv, ix⟩, x⟩).bind fun r => some (r.1.reverse ++ [r.2.1], r.2.2) else none
theorem spec_pushed.mono : ∀ a0 a1 a2 a3 a4 a5 l lv ix x k, LeO (spec_pushed.f k a0 a1 a2 a3 a4 a5 l lv ix x) (spec_pushed.f (k + 1) a0 a1 a2 a3 a4 a5 l lv ix x) := by
  intro a0 a1 a2 a3 a4 a5 l lv ix x k
  exact LeO.ite (LeO.bind (pushUp_mono (fun a b => spec_HashChildren.mono _ _ _ _ _ _ _ _ _) _ _) (fun _ => LeO.refl _)) (LeO.refl _)
theorem spec_pushed.callsR (k : Nat) (a0 a1 a2 a3 a4 a5 : Int) (P1 : Nat → Prop) (A1 : Option Addr) (c1 : Nat) (l : List S51) (lv ix : Int) (P2 : Nat → Prop) (An : Option Addr) (cn : Nat) (x : List Int) (r1 r2 : List S51) (w : World)
    (hs1 : Kd.V k51 51 w w.heap.size (fun q => P1 q) (.slice A1 l.length c1) l) (hs2 : Kd.V (Kd.int .u8) 5 w w.heap.size (fun q => P2 q) (.slice An x.length cn) x) (h : spec_pushed.f k a0 a1 a2 a3 a4 a5 l lv ix x = some (r1, r2)) :
    Calls Tryd.prog 57 #[.agg #[.int .i64 a0, .int .i64 a1, .int .i64 a2, .int .u64 a3, .int .u64 a4, .int .u64 a5], .slice A1 l.length c1, .agg #[.int .u64 lv, .int .u64 ix, .slice An x.length cn]] w fun e w' => ∃ v0 v1 : Value, e = .returned (.tuple #[v0, v1]) ∧ Kd.N k51 51 w' w.heap.size (fun q => ((P1 q ∨ P2 q) ∨ w.heap.size ≤ q) ∧ some q ≠ (v1 : Value).ownBlock) v0 r1 ∧ Kd.N k51 51 w' w.heap.size (fun q => ((P1 q ∨ P2 q) ∨ w.heap.size ≤ q) ∧ some q ≠ (v0 : Value).ownBlock) v1 r2 ∧ Below w.heap.size w w' := by
  unfold spec_pushed.f at h
  by_cases hl : l.length < 1000000000
  case neg => rw [if_neg hl] at h; cases h
  rw [if_pos hl] at h
  obtain ⟨r, hr, h⟩ := Option.bind_eq_some_iff.mp h
  have h := Option.some.inj h
  simp only [Prod.mk.injEq] at h
  obtain ⟨rfl, rfl⟩ := h
  obtain ⟨_, hc, hF⟩ := Kd.V_at hs2
  exact spec_pushed.calls k a0 a1 a2 a3 a4 a5 (fun q => P1 q ∨ P2 q) A1 c1 l lv ix An cn x r w (Kd.V_mono (Kd.V_map hs1 (fun _ h => h)) (fun q h => .inl h)) hc (Kd.F_mono hF (fun q h => .inr h)) hl hr
end Go.Proofs.YtielnphmcaecdaaDoor.PAll
