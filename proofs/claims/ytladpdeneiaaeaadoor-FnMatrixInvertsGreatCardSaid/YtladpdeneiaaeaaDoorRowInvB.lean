/- The row of FnMatrixInvertsGreat, second part: the list is met in the witness's world. -/
import Derived.Test.YtladpdeneiaaeaaDoorRowInvA
namespace Go.Proofs.YtladpdeneiaaeaaDoor.rowFnMatrixInvertsGreat
open Go.ChangeShapes Go.WideShapes Go.ChangeAt Go.RowKit Go.Proofs.YtladpdeneiaaeaaDoorW.PrintWords Go.Proofs.YtladpdeneiaaeaaDoor.PInv
set_option linter.unusedVariables false
open Go.Proofs.YtladpdeneiaaeaaDoor.PRow (logTab expTab Sent)
/-- A place as one number. -/
def key : MemPlace → Nat
  | .cell b off => Nat.add (Nat.mul b 4096) off
  | _ => 0
def noneIs (x : Nat) : List Nat → Bool
  | [] => true
  | y :: l => if Nat.beq x y then false else noneIs x l
def nodupB : List Nat → Bool
  | [] => true
  | x :: l => if noneIs x l then nodupB l else false
theorem noneIs_mem {x : Nat} : ∀ {l : List Nat}, noneIs x l = true → x ∉ l
  | [], _, h => by cases h
  | y :: l, h, hm => by
    rw [noneIs] at h
    by_cases e : Nat.beq x y = true
    · rw [if_pos e] at h; cases h
    · rw [if_neg e] at h
      rcases List.mem_cons.1 hm with rfl | hm
      · exact e (Nat.beq_refl x)
      · exact noneIs_mem h hm
theorem nodup_of {α : Type} (f : α → Nat) : ∀ l : List α, nodupB (l.map f) = true → l.Nodup
  | [], _ => List.nodup_nil
  | x :: l, h => by
    rw [List.map_cons, nodupB] at h
    by_cases e : noneIs (f x) (l.map f) = true
    · rw [if_pos e] at h
      exact List.nodup_cons.2 ⟨fun hm => noneIs_mem e (List.mem_map_of_mem hm), nodup_of f l h⟩
    · rw [if_neg e] at h; cases h
theorem run_nodup (os : Os) : (DataW.laidRun Tryd.prog ((laidWorld os).forCall (fun _ _ => 0) ⟨#[], #[.slice none 0 0], []⟩).memory 300 (Rows.fnMatrixInvertsGreatRow.laid.map (·.1))).map (fun x => nodupB (x.2.map key)) = some true := by kernel_rfl
theorem both_of {α β : Type} (f : β → Nat) {o : Option (α × List β)} {q : α × List β → Bool} [DecidableEq β] (h1 : o.map (fun x => nodupB (x.2.map f)) = some true) (h2 : o.map q = some true) : o.map (fun x => decide x.2.Nodup && q x) = some true := by
  cases o with
  | none => cases h1
  | some x =>
    have e1 : nodupB (x.2.map f) = true := Option.some.inj h1
    have e2 : q x = true := Option.some.inj h2
    show some (decide x.2.Nodup && q x) = some true
    rw [e2, decide_eq_true (nodup_of f _ e1)]
    rfl
theorem laid_met (os : Os) : laidMet Tryd.prog Rows.fnMatrixInvertsGreatRow.laid ((laidWorld os).forCall (fun _ _ => 0) ⟨#[], #[.slice none 0 0], []⟩).memory :=
  laidMet_of_run' 300 (run_is os) (both_of key (run_nodup os) (run_rows os))
end Go.Proofs.YtladpdeneiaaeaaDoor.rowFnMatrixInvertsGreat
