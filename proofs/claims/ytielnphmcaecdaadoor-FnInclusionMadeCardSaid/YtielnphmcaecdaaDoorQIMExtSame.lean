-- Written by a program of this session (wip/tools)
import Derived.Test.YtielnphmcaecdaaDoorQIMPAllx5
import Derived.Outline
import Derived.Deep.QuietTactic
import Derived.BigQuiet
import Derived.IntWalk
namespace Go.Proofs.YtielnphmcaecdaaDoor.PAll
open Go.IntWalk Go.RowKit Go.Proofs.YtielnphmcaecdaaDoorW.PrintWords Go.Proofs.YtielnphmcaecdaaDoorW.PrintLast Go.Proofs.YtielnphmcaecdaaDoorW.PrintMore
set_option linter.unusedVariables false
def sameL : List (List Int) → List (List Int) → Bool
  | [], [] => true
  | x :: xs, y :: ys => if ((strOfNums x).toList == (strOfNums y).toList) = true then sameL xs ys else false
  | _, _ => false
theorem sameL_len : ∀ (l m : List (List Int)), l.length ≠ m.length → sameL l m = false
  | [], [], h => absurd rfl h
  | [], _ :: _, _ => rfl
  | _ :: _, [], _ => rfl
  | x :: xs, y :: ys, h => by
    unfold sameL
    split
    · exact sameL_len xs ys (fun e => h (by rw [List.length_cons, List.length_cons, e]))
    · rfl
theorem sameL_self : ∀ (l : List (List Int)), sameL l l = true
  | [] => rfl
  | x :: xs => by unfold sameL; rw [if_pos (by simp)]; exact sameL_self xs
def spec_Same.f (_ : Nat) (l m : List (List Int)) : Option Bool := some (sameL l m)
theorem spec_Same.mono : ∀ l m k, LeO (spec_Same.f k l m) (spec_Same.f (k + 1) l m) := fun _ _ _ => LeO.refl _
theorem sameL_cons (x y : List Int) (xs ys : List (List Int)) : sameL (x :: xs) (y :: ys) = if ((strOfNums x).toList == (strOfNums y).toList) = true then sameL xs ys else false := rfl
theorem dropRd {l : List (List Int)} {i : Nat} (h : i < l.length) : l.drop i = rd_L1 l (i : Int) :: l.drop (i + 1) := by
  rw [List.drop_eq_getElem_cons h]
  congr 1
  show _ = l.getD i []
  rw [List.getD_eq_getElem?_getD, List.getElem?_eq_getElem h]; rfl
set_option maxHeartbeats 4000000 in
set_option maxRecDepth 100000 in
theorem spec_Same.calls (k : Nat) (A0 : Option Addr) (c0 : Nat) (l : List (List Int)) (A1 : Option Addr) (c1 : Nat) (m : List (List Int)) (r : Bool) (w : World) (hr0 : Kd.C (Kd.slice 5 (Kd.int .u8)) w A0 l.length l) (hc0 : l.length ≤ c0) (hr1 : Kd.C (Kd.slice 5 (Kd.int .u8)) w A1 m.length m) (hc1 : m.length ≤ c1) (h : spec_Same.f k l m = some r) :
    Calls Tryd.prog 29 #[.slice A0 l.length c0, .slice A1 m.length c1] w fun e w' => e = .returned (.bool r) ∧ Drawn0 w w' := by
  obtain rfl : sameL l m = r := Option.some.inj h
  clear h
  by_cases h0 : l.length = m.length
  · have b0 : ((l.length : Int) != (m.length : Int)) = false := bne_eq_false_iff_eq.mpr (by omega)
    have b1 : (l.length != m.length) = false := bne_eq_false_iff_eq.mpr h0
    have HL := Aside0.mk hr0.2.1
    have HR := Aside0.mk hr0
    have HC := Aside0.mk hc0
    have HR' := Aside0.mk hr1
    have HC' := Aside0.mk hc1
    have H0 := Aside0.mk h0
    clear hr0 hc0 hr1 hc1 h0
    go_enter Tryd.func29, Tryd.ntmps29
    go_wp2
    try simp only [Act.put, List.setIfInBounds_toArray, List.set_cons_zero, List.set_cons_succ]
    go_loopg [13] l.length (fun kq v13 w' => ∃ i : Nat, v13 = .int .i64 (i : Int) ∧ Aside0 (i + kq = l.length) ∧ Aside0 (sameL (l.drop i) (m.drop i) = sameL l m) ∧ Drawn0 w w')
    case atStart => exact ⟨0, rfl, ⟨by omega⟩, ⟨by rw [List.drop_zero, List.drop_zero]⟩, by repeat (first | exact Drawn0.refl _ | apply Drawn0.step)⟩
    case round =>
      obtain ⟨i, rfl, HI, HJ, ⟨m1, rfl⟩⟩ := hrel
      cases gk with
      | zero =>
        have ei : i = l.length := by have := HI.out; omega
        subst ei
        have hj := HJ.out
        rw [List.drop_of_length_le (Nat.le_refl _), List.drop_of_length_le (by have := H0.out; omega)] at hj
        have HJ2 := Aside0.mk (show true = sameL l m from hj)
        clear hj
        go_wp2
        go_ret
        exact ⟨by rw [← HJ2.out]; rfl, by repeat (first | exact Drawn0.refl _ | apply Drawn0.step)⟩
      | succ k1 =>
        have hi : i < l.length := by have := HI.out; omega
        have hi' : i < m.length := by have := HI.out; have := H0.out; omega
        have d1 : decide (i < l.length) = true := decide_eq_true hi
        have d2 : decide ((i : Int) < (l.length : Int)) = true := decide_eq_true (by omega)
        have d3 : decide (i < m.length) = true := decide_eq_true hi'
        have d4 : decide ((i : Int) < (m.length : Int)) = true := decide_eq_true (by omega)
        have d5 : (i : Int) < (l.length : Int) := by omega
        have d6 : (i : Int) < (m.length : Int) := by omega
        have d7 : 0 ≤ (i : Int) := by omega
        have hj := HJ.out
        rw [dropRd hi, dropRd hi'] at hj
        obtain ⟨ad, A1, e1, q1, hx1, hl1, hi1⟩ := at_L1 HR.out (i : Int) (by omega) (by omega)
        cases q1
        obtain ⟨ad2, A2, e2, q2, hx2, hl2, hi2⟩ := at_L1 HR'.out (i : Int) (by omega) (by omega)
        cases q2
        have hx1' : w.cell? (ad.add i) = some (.slice A1 (rd_L1 l (i : Int)).length e1) := hx1
        have hx2' : w.cell? (ad2.add i) = some (.slice A2 (rd_L1 m (i : Int)).length e2) := hx2
        have hcv3 := fun m => Kd.C_string (P := Tryd.prog) (A := A1) (c := e1) Tryd.underlying27 Tryd.underlying5 Tryd.underlying9 (Kd.C_drewN hi1 m)
        have hcv4 := fun m => Kd.C_string (P := Tryd.prog) (A := A2) (c := e2) Tryd.underlying27 Tryd.underlying5 Tryd.underlying9 (Kd.C_drewN hi2 m)
        have hcv5 := fun m n => Kd.C_string (P := Tryd.prog) (A := A1) (c := e1) Tryd.underlying27 Tryd.underlying5 Tryd.underlying9 (Kd.C_drewN (Kd.C_drewN hi1 m) n)
        have hcv6 := fun m n => Kd.C_string (P := Tryd.prog) (A := A2) (c := e2) Tryd.underlying27 Tryd.underlying5 Tryd.underlying9 (Kd.C_drewN (Kd.C_drewN hi2 m) n)
        generalize rd_L1 l (i : Int) = x at *
        generalize rd_L1 m (i : Int) = y at *
        have hmx : l.length ≤ 9223372036854775807 := HL.out
        clear hx1 hx2
        by_cases hxy : ((strOfNums x).toList == (strOfNums y).toList) = true
        · have HJ2 : sameL (l.drop (i + 1)) (m.drop (i + 1)) = sameL l m := by
            rw [← hj, sameL_cons, if_pos hxy]
          have b9 : ((strOfNums x).toList != (strOfNums y).toList) = false := by unfold bne; rw [hxy]; rfl
          have HJ3 := Aside0.mk HJ2
          clear hj HJ2 hi hi'
          go_wp2_with (fail)
          go_quiet (fail)
          go_wp2
          go_roundg k1
          case measure => omega
          case rel => exact ⟨i + 1, by first | rfl | (congr 1), ⟨by have := HI.out; omega⟩, HJ3, by repeat (first | exact Drawn0.refl _ | apply Drawn0.step | exact ⟨⟨_, rfl⟩⟩)⟩
        · have HJ2 : sameL l m = false := by
            rw [← hj, sameL_cons, if_neg hxy]
          have b9 : ((strOfNums x).toList != (strOfNums y).toList) = true := by unfold bne; rw [Bool.eq_false_iff.mpr hxy]; rfl
          have HJ3 := Aside0.mk HJ2
          clear hj HJ2 hi hi'
          go_wp2_with (fail)
          go_quiet (fail)
          go_wp2
          go_ret
          exact ⟨by rw [HJ3.out]; rfl, by repeat (first | exact Drawn0.refl _ | apply Drawn0.step | exact ⟨⟨_, rfl⟩⟩)⟩
  · have hf := sameL_len l m h0
    have b0 : ((l.length : Int) != (m.length : Int)) = true := bne_iff_ne.mpr (by omega)
    have b1 : (l.length != m.length) = true := bne_iff_ne.mpr h0
    have HF := Aside0.mk hf
    clear hf hr0 hr1 h0
    go_enter Tryd.func29, Tryd.ntmps29
    go_wp2
    go_ret
    exact ⟨by rw [HF.out]; rfl, by repeat (first | exact Drawn0.refl _ | apply Drawn0.step)⟩
end Go.Proofs.YtielnphmcaecdaaDoor.PAll
