import Derived.Test.YtladpdeneiaaeaaDoorExtRedW
import Derived.Test.YtladpdeneiaaeaaDoorInvDec
/-! spec.Reduced: what it gives. -/
namespace Go.Proofs.YtladpdeneiaaeaaDoor.Inv
open Go.RowKit Go.Proofs.YtladpdeneiaaeaaDoorW.PrintWords Go.Proofs.YtladpdeneiaaeaaDoorW.PrintLast Go.Proofs.YtladpdeneiaaeaaDoorW.PrintMore
set_option linter.unusedVariables false
def upto (n : Nat) : List Int := (List.range n).map Int.ofNat
theorem upto_at {n i : Nat} (h : i < n) : rd (upto n) (i : Int) = (i : Int) := by
  show (upto n).getD i 0 = (i : Int)
  unfold upto
  rw [List.getD_eq_getElem?_getD, List.getElem?_map, List.getElem?_range h]; rfl
theorem upTo_loop (n : Nat) (hn : n < 1000000) (d : Nat) : ∀ i, i + d = n → PInv.spec_upTo.l0 (d + 1) (n : Int) (upto i) (i : Int) = some (upto n) := by
  induction d with
  | zero =>
    intro i hi
    rw [PInv.spec_upTo.l0, if_neg (by omega), show i = n by omega]
  | succ d ih =>
    intro i hi
    have e : upto i ++ [(i : Int)] = upto (i + 1) := by unfold upto; rw [List.range_succ, List.map_append]; rfl
    rw [PInv.spec_upTo.l0, if_pos (by omega), if_pos (by unfold upto; rw [List.length_map, List.length_range]; omega), nxt (by omega), e]
    exact ih (i + 1) (by omega)
theorem upTo_eq {n : Nat} (hn : n < 1000000) : PInv.spec_upTo.f (n + 1) (n : Int) = some (upto n) := upTo_loop n hn n 0 (by omega)
theorem chosen_loop (n L : Nat) (xs : Mat) (hS : Sh n L xs) (hn : n < 1000000) (hL : L < 1000000) (d : Nat) : ∀ i, i + d = n → PInv.spec_Chosen.l0 (d + 1) xs (xs.take i) (upto n) (n : Int) (i : Int) = some xs := by
  have hu : (upto n).length = n := by unfold upto; rw [List.length_map, List.length_range]
  have hl := hS.1
  induction d with
  | zero =>
    intro i hi
    rw [PInv.spec_Chosen.l0, if_neg (by omega), List.take_of_length_le (by omega)]
  | succ d ih =>
    intro i hi
    have hr := (hS.2 i (by omega)).1
    have e1 : PInv.rd_L1 xs (i : Int) = xs.getD i [] := rfl
    have e2 : xs.take i ++ [xs.getD i []] = xs.take (i + 1) := by
      rw [List.getD_eq_getElem?_getD, List.getElem?_eq_getElem (by omega : i < xs.length), Option.getD_some, List.take_succ_eq_append_getElem (by omega : i < xs.length)]
    rw [PInv.spec_Chosen.l0, if_pos (by omega), if_pos (by omega), if_pos (by rw [hu]; omega), Option.bind_some, upto_at (by omega), if_pos (by omega), if_pos (by rw [hl]; omega), e1, List.nil_append, if_pos (by rw [List.length_nil, hr]; omega), if_pos (by rw [List.length_take]; omega), nxt (by omega), e2]
    exact ih (i + 1) (by omega)
theorem chosen_eq {n L : Nat} {xs : Mat} (hS : Sh n L xs) (hn : n < 1000000) (hL : L < 1000000) : PInv.spec_Chosen.f (n + 1) xs (upto n) = some xs := by
  unfold PInv.spec_Chosen.f
  rw [show (upto n).length = n by unfold upto; rw [List.length_map, List.length_range]]
  exact chosen_loop n L xs hS hn hL n 0 (by omega)
end Go.Proofs.YtladpdeneiaaeaaDoor.Inv
namespace Go.Proofs.YtladpdeneiaaeaaDoor.PInv
open Go.RowKit Go.Proofs.YtladpdeneiaaeaaDoorW.PrintWords Go.Proofs.YtladpdeneiaaeaaDoorW.PrintLast Go.Proofs.YtladpdeneiaaeaaDoorW.PrintMore
open Go.Proofs.YtladpdeneiaaeaaDoor.Inv (Sh red MM XX II)
/-- What spec.Reduced gives: the matrix that its elimination leaves, and its rank. -/
def spec_Reduced.f (l0 : List (List Int)) : Option (List (List Int) × Int) :=
  if 0 < l0.length ∧ l0.length < 1000 ∧ l0.length ≤ (rd_L1 l0 0).length ∧ (rd_L1 l0 0).length < 1000 ∧ Sh l0.length (rd_L1 l0 0).length l0 then
    some ((red MM XX II l0.length (rd_L1 l0 0).length 0 0 l0).1, ((red MM XX II l0.length (rd_L1 l0 0).length 0 0 l0).2 : Int)) else none
theorem spec_Reduced.calls (A0 : Option Addr) (c0 : Nat) (l0 : List (List Int)) (r1 : List (List Int)) (r2 : Int) (w : World) (hr0 : Kd.C (Kd.slice 5 (Kd.int .u8)) w A0 l0.length l0) (hc0 : l0.length ≤ c0) (h : spec_Reduced.f l0 = some (r1, r2)) :
    Calls Tryd.prog 40 #[.slice A0 l0.length c0] w fun e w' => ∃ v, e = .returned (.tuple #[v, .int .i64 r2]) ∧ Kd.S (Kd.slice 5 (Kd.int .u8)) 25 w' w.heap.size (fun _ => True) v r1 ∧ Below w.heap.size w w' := by
  unfold spec_Reduced.f at h
  by_cases hc : 0 < l0.length ∧ l0.length < 1000 ∧ l0.length ≤ (rd_L1 l0 0).length ∧ (rd_L1 l0 0).length < 1000 ∧ Sh l0.length (rd_L1 l0 0).length l0
  · rw [if_pos hc] at h
    obtain ⟨h1, h2, h3, h4, h5⟩ := hc
    have h := Option.some.inj h
    have e1 := congrArg Prod.fst h
    have e2 := congrArg Prod.snd h
    dsimp only at e1 e2
    subst e1 e2
    exact Inv.reduced.calls w A0 c0 l0.length (rd_L1 l0 0).length l0 hr0 hc0 h5 h1 h3 (by omega) (by omega) (l0.length + 1) _ (Inv.upTo_eq (by omega)) (l0.length + 1) (Inv.chosen_eq h5 (by omega) (by omega))
  · rw [if_neg hc] at h; cases h
end Go.Proofs.YtladpdeneiaaeaaDoor.PInv
