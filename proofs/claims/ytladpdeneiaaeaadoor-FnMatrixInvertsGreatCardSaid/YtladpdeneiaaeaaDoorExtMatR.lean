import Derived.Test.YtladpdeneiaaeaaDoorPRowx0
import Derived.Test.YtladpdeneiaaeaaDoorExtGalR
namespace Go.Proofs.YtladpdeneiaaeaaDoor.PRow
open Go.RowKit Go.Proofs.YtladpdeneiaaeaaDoorW.PrintWords Go.Proofs.YtladpdeneiaaeaaDoorW.PrintLast Go.Proofs.YtladpdeneiaaeaaDoorW.PrintMore
set_option linter.unusedVariables false
/-- At least one row and one column, rows of one length. -/
def Rect (l : List (List Int)) : Prop := 0 < l.length ∧ 0 < (rd_L1 l 0).length ∧ ∀ x ∈ l, x.length = (rd_L1 l 0).length
instance (l : List (List Int)) : Decidable (Rect l) := by unfold Rect; infer_instance
def impl_isMatrix.f (l : List (List Int)) : Option Bool := some (decide (Rect l))
theorem next64 {i : Nat} (h : i < 9223372036854775807) : wrap64 ((i : Int) + 1) = ((i + 1 : Nat) : Int) := by unfold wrap64; omega
theorem rd_L1_nat (l : List (List Int)) (i : Nat) : rd_L1 l (i : Int) = l.getD i [] := rfl
theorem rd_mem {l : List (List Int)} {i : Nat} (h : i < l.length) : rd_L1 l (i : Int) ∈ l := by
  rw [rd_L1_nat, List.getD_eq_getElem?_getD, List.getElem?_eq_getElem h]; exact List.getElem_mem h
theorem rect_of {l : List (List Int)} (h0 : 0 < l.length) (h1 : 0 < (rd_L1 l 0).length) (h : ∀ j : Nat, j < l.length → (rd_L1 l (j : Int)).length = (rd_L1 l 0).length) : Rect l := by
  refine ⟨h0, h1, fun x hx => ?_⟩
  obtain ⟨j, hj, rfl⟩ := List.getElem_of_mem hx
  have := h j hj
  rw [rd_L1_nat, List.getD_eq_getElem?_getD, List.getElem?_eq_getElem hj] at this
  exact this
set_option maxHeartbeats 4000000 in
set_option maxRecDepth 100000 in
theorem check.calls (A : Option Addr) (c : Nat) (l : List (List Int)) (w : World) (hG : Glob w) (hr : Kd.C (Kd.slice 5 (Kd.int .u8)) w A l.length l) (hc : l.length ≤ c) :
    Calls Tryd.prog 58 #[.slice A l.length c] w fun e w' => ∃ v, e = .returned v ∧ ((Rect l ∧ v = .nilIface) ∨ (¬ Rect l ∧ ∃ t a, v = .iface t (.pointer (some a)))) ∧ Drawn0 w w' := by
  obtain ⟨t2, a2, g2⟩ := hG.s2
  obtain ⟨t5, a5, g5⟩ := hG.s5
  obtain ⟨t6, a6, g6⟩ := hG.s6
  by_cases h0 : (l.length : Int) = 0
  · have b0 : ((l.length : Int) == 0) = true := beq_iff_eq.mpr h0
    have n0 : ¬ Rect l := fun h => by have := h.1; omega
    go_enter Tryd.func58, Tryd.ntmps58
    go_wp2
    go_ret
    exact ⟨_, rfl, .inr ⟨n0, t2, a2, rfl⟩, by repeat (first | exact Drawn0.refl _ | apply Drawn0.step)⟩
  · have b0 : ((l.length : Int) == 0) = false := beq_eq_false_iff_ne.mpr h0
    obtain ⟨ad, A0, c0, rfl, hx0, hl0, hi0⟩ := at_L1 hr 0 (by omega) (by omega)
    have hx0' : w.cell? ad = some (.slice A0 (rd_L1 l 0).length c0) := by simpa [Addr.add] using hx0
    by_cases h1 : ((rd_L1 l 0).length : Int) = 0
    · have b1 : (((rd_L1 l 0).length : Int) == 0) = true := beq_iff_eq.mpr h1
      have n0 : ¬ Rect l := fun h => by have := h.2.1; omega
      go_enter Tryd.func58, Tryd.ntmps58
      go_wp2
      go_ret
      exact ⟨_, rfl, .inr ⟨n0, t5, a5, rfl⟩, by repeat (first | exact Drawn0.refl _ | apply Drawn0.step)⟩
    · have b1 : (((rd_L1 l 0).length : Int) == 0) = false := beq_eq_false_iff_ne.mpr h1
      have HL := Aside0.mk hr.2.1
      have HR := Aside0.mk hr
      have HC := Aside0.mk hc
      have HG := Aside0.mk hG
      have hpos : 0 < l.length := by omega
      have H0 := Aside0.mk h0
      have H1 := Aside0.mk h1
      obtain ⟨m, hm⟩ : ∃ m : Nat, (rd_L1 l 0).length = m := ⟨_, rfl⟩
      rw [hm] at b1 hx0' hx0 hl0 hi0
      have HM := Aside0.mk hm
      clear hr hc hG h0 h1 hm hi0
      go_enter Tryd.func58, Tryd.ntmps58
      go_wp2
      try simp only [Act.put, List.setIfInBounds_toArray, List.set_cons_zero, List.set_cons_succ]
      go_loopg [21] l.length (fun kq v21 w' => ∃ i : Nat, v21 = .int .i64 (i : Int) ∧ Aside0 (i + kq = l.length) ∧ Aside0 (∀ j : Nat, j < i → (rd_L1 l (j : Int)).length = m) ∧ Drawn0 w w')
      case atStart => exact ⟨0, rfl, ⟨by omega⟩, ⟨fun j h => absurd h (by omega)⟩, by repeat (first | exact Drawn0.refl _ | apply Drawn0.step)⟩
      case round =>
        obtain ⟨i, rfl, HI, HJ, ⟨m1, rfl⟩⟩ := hrel
        cases gk with
        | zero =>
          have ei : i = l.length := by have := HI.out; omega
          subst ei
          have n0 : Rect l := rect_of (by have := H0.out; omega) (by have := H1.out; omega) (fun j hj => by rw [HM.out]; exact HJ.out j hj)
          go_wp2
          go_ret
          exact ⟨_, rfl, .inl ⟨n0, rfl⟩, by repeat (first | exact Drawn0.refl _ | apply Drawn0.step)⟩
        | succ k1 =>
          have hi : i < l.length := by have := HI.out; omega
          have c1 : decide (i < l.length) = true := decide_eq_true hi
          have c2 : decide ((i : Int) < (l.length : Int)) = true := decide_eq_true (by omega)
          obtain ⟨ad', A1, d1, e1, hx1, hl1, hi1⟩ := at_L1 HR.out (i : Int) (by omega) (by omega)
          cases e1
          obtain ⟨n, hn⟩ : ∃ n : Nat, (rd_L1 l (i : Int)).length = n := ⟨_, rfl⟩
          rw [hn] at hx1 hl1
          have hx1' : w.cell? (ad.add i) = some (.slice A1 n d1) := hx1
          clear hi1
          by_cases hnm : n = m
          · have b2 : ((n : Int) == (m : Int)) = true := beq_iff_eq.mpr (by omega)
            have b3 : ((n : Int) != (m : Int)) = false := bne_eq_false_iff_eq.mpr (by omega)
            have HN := Aside0.mk hnm
            clear hnm
            go_wp2
            go_roundg k1
            case measure => omega
            case rel => exact ⟨i + 1, by rw [next64 (by have := HL.out; omega)], ⟨by have := HI.out; omega⟩, ⟨fun j hj => by
              by_cases e : j = i
              · rw [e, hn, HN.out]
              · exact HJ.out j (by omega)⟩, by repeat (first | exact Drawn0.refl _ | apply Drawn0.step)⟩
          · have b2 : ((n : Int) == (m : Int)) = false := beq_eq_false_iff_ne.mpr (by omega)
            have b3 : ((n : Int) != (m : Int)) = true := bne_iff_ne.mpr (by omega)
            have n0 : ¬ Rect l := fun h => hnm (by rw [← hn, h.2.2 _ (rd_mem hi), HM.out])
            have HN := Aside0.mk hnm
            clear hnm
            go_wp2
            go_ret
            exact ⟨_, rfl, .inr ⟨n0, t6, a6, rfl⟩, by repeat (first | exact Drawn0.refl _ | apply Drawn0.step)⟩
set_option maxHeartbeats 4000000 in
theorem doorCheck.calls (A : Option Addr) (c : Nat) (l : List (List Int)) (w : World) (hG : Glob w) (hr : Kd.C (Kd.slice 5 (Kd.int .u8)) w A l.length l) (hc : l.length ≤ c) :
    Calls Tryd.prog 50 #[.slice A l.length c] w fun e w' => ∃ v, e = .returned v ∧ ((Rect l ∧ v = .nilIface) ∨ (¬ Rect l ∧ ∃ t a, v = .iface t (.pointer (some a)))) ∧ Drawn0 w w' := by
  have HR := Aside0.mk hr
  have HC := Aside0.mk hc
  have HG := Aside0.mk hG
  clear hr hc hG
  go_enter Tryd.func50, Tryd.ntmps50
  go_wp2_with (fail)
  refine (check.calls A c l _ HG.out HR.out HC.out).mono ?_
  rintro e w' ⟨v, rfl, hv, ⟨nd, rfl⟩⟩
  dsimp only
  go_wp2
  go_ret
  exact ⟨_, rfl, hv, by repeat (first | exact Drawn0.refl _ | apply Drawn0.step)⟩
set_option maxHeartbeats 4000000 in
theorem impl_isMatrix.calls (A : Option Addr) (c : Nat) (l : List (List Int)) (r : Bool) (w : World) (hG : Glob w) (hr : Kd.C (Kd.slice 5 (Kd.int .u8)) w A l.length l) (hc : l.length ≤ c) (h : impl_isMatrix.f l = some r) :
    Calls Tryd.prog 32 #[.slice A l.length c] w fun e w' => e = .returned (.bool r) ∧ Drawn0 w w' := by
  have HR := Aside0.mk hr
  have HC := Aside0.mk hc
  have HG := Aside0.mk hG
  have H := Aside0.mk (Option.some.inj h)
  clear hr hc hG h
  go_enter Tryd.func32, Tryd.ntmps32
  go_wp2_with (fail)
  refine (doorCheck.calls A c l _ HG.out HR.out HC.out).mono ?_
  rintro e w' ⟨v, rfl, hv, ⟨nd, rfl⟩⟩
  dsimp only
  rcases hv with ⟨hrect, rfl⟩ | ⟨hno, t, a, rfl⟩
  · go_wp2
    go_ret
    exact ⟨by rw [← H.out, decide_eq_true hrect]; rfl, by repeat (first | exact Drawn0.refl _ | apply Drawn0.step)⟩
  · go_wp2
    go_ret
    exact ⟨by rw [← H.out, decide_eq_false hno]; rfl, by repeat (first | exact Drawn0.refl _ | apply Drawn0.step)⟩
end Go.Proofs.YtladpdeneiaaeaaDoor.PRow
