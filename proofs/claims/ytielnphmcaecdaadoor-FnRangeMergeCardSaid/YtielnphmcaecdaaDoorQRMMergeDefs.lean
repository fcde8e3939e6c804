-- Written by a program of this session (wip/tools)
import Derived.Test.YtielnphmcaecdaaDoorQRMPAllx8
import Derived.Test.YtielnphmcaecdaaDoorQRMPAllx6
import Derived.Test.YtielnphmcaecdaaDoorQRMExtRangeA3
namespace Go.Proofs.YtielnphmcaecdaaDoor.PAll
open Go.RowKit Go.Proofs.YtielnphmcaecdaaDoor.Num Go.Proofs.YtielnphmcaecdaaDoorW.PrintWords Go.Proofs.YtielnphmcaecdaaDoorW.PrintLast Go.Proofs.YtielnphmcaecdaaDoorW.PrintMore
set_option linter.unusedVariables false
set_option linter.unusedSimpArgs false
def upOf (a : S51) (x : List Int) : S51 := ⟨⟨IntKind.u64.wrap (a.1.1 + 1), IntKind.u64.wrap (a.1.2.tdiv 2)⟩, x⟩
def pushUp (F : List Int → List Int → Option (List Int)) : List S51 → S51 → Option (List S51 × S51 × List S51)
  | [], v => some ([], v, [])
  | a :: s, v => if a.1.1 = v.1.1 ∧ a.1.2.tmod 2 = 0 then (F a.2 v.2).bind fun h => (pushUp F s (upOf a h)).bind fun r => some (r.1, r.2.1, upOf a h :: r.2.2) else some (a :: s, v, [])
def mergedAll (F : List Int → List Int → Option (List Int)) : List S51 → List S51 → Option (List S51 × List S51)
  | st, [] => some (st, [])
  | st, v :: l => (pushUp F st v).bind fun r => (mergedAll F (r.2.1 :: r.1) l).bind fun q => some (q.1, r.2.2 ++ q.2)
theorem pushUp_mono {F F' : List Int → List Int → Option (List Int)} (h : ∀ a b, LeO (F a b) (F' a b)) : ∀ (st : List S51) (v : S51), LeO (pushUp F st v) (pushUp F' st v)
  | [], _ => LeO.refl _
  | a :: s, v => LeO.ite (LeO.bind (h _ _) (fun x => LeO.bind (pushUp_mono h s _) (fun _ => LeO.refl _))) (LeO.refl _)
theorem pushUp_len {F : List Int → List Int → Option (List Int)} : ∀ (st : List S51) (v : S51) (r : List S51 × S51 × List S51), pushUp F st v = some r → r.1.length + r.2.2.length = st.length
  | [], v, r, h => by cases h; rfl
  | a :: s, v, r, h => by
    rw [pushUp] at h
    by_cases hc : a.1.1 = v.1.1 ∧ a.1.2.tmod 2 = 0
    · rw [if_pos hc] at h
      obtain ⟨x, _, h⟩ := Option.bind_eq_some_iff.mp h
      obtain ⟨q, hq, h⟩ := Option.bind_eq_some_iff.mp h
      cases h
      have := pushUp_len s _ q hq
      simp only [List.length_cons]; omega
    · rw [if_neg hc] at h
      cases h; rfl
end Go.Proofs.YtielnphmcaecdaaDoor.PAll
