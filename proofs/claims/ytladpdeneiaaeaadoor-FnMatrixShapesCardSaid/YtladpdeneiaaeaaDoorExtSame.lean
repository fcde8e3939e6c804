import Derived.Test.YtladpdeneiaaeaaDoorPShpx2
import Derived.Outline
import Derived.Deep.QuietTactic
import Derived.BigQuiet
namespace Go.Proofs.YtladpdeneiaaeaaDoor.PShp
open Go.RowKit Go.Proofs.YtladpdeneiaaeaaDoorW.PrintWords Go.Proofs.YtladpdeneiaaeaaDoorW.PrintLast Go.Proofs.YtladpdeneiaaeaaDoorW.PrintMore
set_option linter.unusedVariables false
/-- As many rows, of the same lengths. -/
def Alike (l m : List (List Int)) : Prop := l.length = m.length ∧ ∀ j : Nat, j < l.length → (rd_L1 l (j : Int)).length = (rd_L1 m (j : Int)).length
set_option maxHeartbeats 4000000 in
set_option maxRecDepth 100000 in
theorem sameSize.calls (A : Option Addr) (c : Nat) (l : List (List Int)) (A' : Option Addr) (c' : Nat) (l' : List (List Int)) (w : World) (hG : Glob w) (hr : Kd.C (Kd.slice 5 (Kd.int .u8)) w A l.length l) (hc : l.length ≤ c) (hr' : Kd.C (Kd.slice 5 (Kd.int .u8)) w A' l'.length l') (hc' : l'.length ≤ c') :
    Calls Tryd.prog 53 #[.slice A l.length c, .slice A' l'.length c'] w fun e w' => ∃ v, e = .returned v ∧ ((Alike l l' ∧ v = .nilIface) ∨ (¬ Alike l l' ∧ ∃ t a, v = .iface t (.pointer (some a)))) ∧ Drawn0 w w' := by
  obtain ⟨t3, a3, g3⟩ := hG.s3
  by_cases h0 : (l.length : Int) = (l'.length : Int)
  · have b0 : ((l.length : Int) != (l'.length : Int)) = false := bne_eq_false_iff_eq.mpr h0
    have HL := Aside0.mk hr.2.1
    have HR := Aside0.mk hr
    have HC := Aside0.mk hc
    have HR' := Aside0.mk hr'
    have HC' := Aside0.mk hc'
    have H0 := Aside0.mk h0
    clear hr hc hr' hc' h0 hG
    go_enter Tryd.func53, Tryd.ntmps53
    go_wp2
    try simp only [Act.put, List.setIfInBounds_toArray, List.set_cons_zero, List.set_cons_succ]
    go_loopg [14] l.length (fun kq v14 w' => ∃ i : Nat, v14 = .int .i64 (i : Int) ∧ Aside0 (i + kq = l.length) ∧ Aside0 (∀ j : Nat, j < i → (rd_L1 l (j : Int)).length = (rd_L1 l' (j : Int)).length) ∧ Drawn0 w w')
    case atStart => exact ⟨0, rfl, ⟨by omega⟩, ⟨fun j h => absurd h (by omega)⟩, by repeat (first | exact Drawn0.refl _ | apply Drawn0.step)⟩
    case round =>
      obtain ⟨i, rfl, HI, HJ, ⟨m1, rfl⟩⟩ := hrel
      cases gk with
      | zero =>
        have ei : i = l.length := by have := HI.out; omega
        subst ei
        have n0 : Alike l l' := ⟨by have := H0.out; omega, HJ.out⟩
        go_wp2
        go_ret
        exact ⟨_, rfl, .inl ⟨n0, rfl⟩, by repeat (first | exact Drawn0.refl _ | apply Drawn0.step)⟩
      | succ k1 =>
        have hi : i < l.length := by have := HI.out; omega
        have hi' : i < l'.length := by have := HI.out; have := H0.out; omega
        have c1 : decide (i < l.length) = true := decide_eq_true hi
        have c2 : decide ((i : Int) < (l.length : Int)) = true := decide_eq_true (by omega)
        have c3 : decide (i < l'.length) = true := decide_eq_true hi'
        have c4 : decide ((i : Int) < (l'.length : Int)) = true := decide_eq_true (by omega)
        have c5 : (i : Int) < (l.length : Int) := by omega
        have c6 : (i : Int) < (l'.length : Int) := by omega
        have c7 : 0 ≤ (i : Int) := by omega
        obtain ⟨ad, A1, d1, e1, hx1, hl1, hi1⟩ := at_L1 HR.out (i : Int) (by omega) (by omega)
        cases e1
        obtain ⟨ad2, A2, d2, e2, hx2, hl2, hi2⟩ := at_L1 HR'.out (i : Int) (by omega) (by omega)
        cases e2
        obtain ⟨n, hn⟩ : ∃ n : Nat, (rd_L1 l (i : Int)).length = n := ⟨_, rfl⟩
        obtain ⟨m, hm⟩ : ∃ n : Nat, (rd_L1 l' (i : Int)).length = n := ⟨_, rfl⟩
        rw [hn] at hx1 hl1
        rw [hm] at hx2 hl2
        have hx1' : w.cell? (ad.add i) = some (.slice A1 n d1) := hx1
        have hx2' : w.cell? (ad2.add i) = some (.slice A2 m d2) := hx2
        clear hi1 hi2 hx1 hx2
        by_cases hnm : n = m
        · have b2 : ((n : Int) != (m : Int)) = false := bne_eq_false_iff_eq.mpr (by omega)
          have HN := Aside0.mk hnm
          clear hnm
          go_wp2
          go_quiet (fail)
          go_wp2
          go_roundg k1
          case measure => omega
          case rel => exact ⟨i + 1, by rw [next64 (by have := HL.out; omega)], ⟨by have := HI.out; omega⟩, ⟨fun j hj => by
              by_cases e : j = i
              · rw [e, hn, hm, HN.out]
              · exact HJ.out j (by omega)⟩, by repeat (first | exact Drawn0.refl _ | apply Drawn0.step)⟩
        · have b2 : ((n : Int) != (m : Int)) = true := bne_iff_ne.mpr (by omega)
          have n0 : ¬ Alike l l' := fun h => hnm (by rw [← hn, h.2 i hi, hm])
          have HN := Aside0.mk hnm
          clear hnm
          go_wp2
          go_quiet (fail)
          go_wp2
          go_ret
          exact ⟨_, rfl, .inr ⟨n0, t3, a3, rfl⟩, by repeat (first | exact Drawn0.refl _ | apply Drawn0.step)⟩
  · have b0 : ((l.length : Int) != (l'.length : Int)) = true := bne_iff_ne.mpr h0
    have n0 : ¬ Alike l l' := fun h => h0 (by rw [h.1])
    go_enter Tryd.func53, Tryd.ntmps53
    go_wp2
    go_ret
    exact ⟨_, rfl, .inr ⟨n0, t3, a3, rfl⟩, by repeat (first | exact Drawn0.refl _ | apply Drawn0.step)⟩
set_option maxHeartbeats 4000000 in
theorem doorSame.calls (A : Option Addr) (c : Nat) (l : List (List Int)) (A' : Option Addr) (c' : Nat) (l' : List (List Int)) (w : World) (hG : Glob w) (hr : Kd.C (Kd.slice 5 (Kd.int .u8)) w A l.length l) (hc : l.length ≤ c) (hr' : Kd.C (Kd.slice 5 (Kd.int .u8)) w A' l'.length l') (hc' : l'.length ≤ c') :
    Calls Tryd.prog 37 #[.slice A l.length c, .slice A' l'.length c'] w fun e w' => ∃ v, e = .returned v ∧ ((Alike l l' ∧ v = .nilIface) ∨ (¬ Alike l l' ∧ ∃ t a, v = .iface t (.pointer (some a)))) ∧ Drawn0 w w' := by
  have HR := Aside0.mk hr
  have HC := Aside0.mk hc
  have HR' := Aside0.mk hr'
  have HC' := Aside0.mk hc'
  have HG := Aside0.mk hG
  clear hr hc hr' hc' hG
  go_enter Tryd.func37, Tryd.ntmps37
  go_wp2_with (fail)
  refine (sameSize.calls A c l A' c' l' _ HG.out HR.out HC.out HR'.out HC'.out).mono ?_
  rintro e w' ⟨v, rfl, hv, ⟨nd, rfl⟩⟩
  dsimp only
  go_wp2
  go_ret
  exact ⟨_, rfl, hv, by repeat (first | exact Drawn0.refl _ | apply Drawn0.step)⟩
/-- What 'SameSize' of the thin package says. -/
def impl_SameSize.f (k : Nat) (l m : List (List Int)) : Option Bool :=
  if Rect l ∧ Rect m then (impl_rows.f k l).bind fun x => (impl_rows.f k m).bind fun y => some (x.length == y.length && (List.range x.length).all fun j => (rd_L1 x (j : Int)).length == (rd_L1 y (j : Int)).length) else some false
theorem impl_SameSize.mono : ∀ a0 a1 k, LeO (impl_SameSize.f k a0 a1) (impl_SameSize.f (k + 1) a0 a1) := by
  intro a0 a1 k
  unfold impl_SameSize.f
  refine LeO.ite ?_ (LeO.refl _)
  refine LeO.bind (impl_rows.mono _ _) (fun _ => ?_)
  exact LeO.bind (impl_rows.mono _ _) (fun _ => LeO.refl _)
theorem pair_read {w : World} {A0 : Option Addr} {c0 : Nat} {l0 : List (List Int)} {A1 : Option Addr} {c1 : Nat} {l1 : List (List Int)} (hr0 : Kd.C (Kd.slice 5 (Kd.int .u8)) w A0 l0.length l0) (hc0 : l0.length ≤ c0) (hr1 : Kd.C (Kd.slice 5 (Kd.int .u8)) w A1 l1.length l1) (hc1 : l1.length ≤ c1) :
    Kd.C (Kd.slice 25 (Kd.slice 5 (Kd.int .u8))) (w.alloc (Obj.cells #[.slice A0 l0.length c0, .slice A1 l1.length c1] 31)) (some ⟨w.heap.size, 0, none⟩) 2 [l0, l1] := by
  have b := below_alloc (Below.refl w.heap.size w) (Obj.cells #[.slice A0 l0.length c0, .slice A1 l1.length c1] 31)
  have k0 : (Kd.slice 25 (Kd.slice 5 (Kd.int .u8))).K (w.alloc (Obj.cells #[.slice A0 l0.length c0, .slice A1 l1.length c1] 31)) l0 [.slice A0 l0.length c0] := ⟨A0, c0, rfl, hc0, Kd.C_below hr0 b⟩
  have k1 : (Kd.slice 25 (Kd.slice 5 (Kd.int .u8))).K (w.alloc (Obj.cells #[.slice A0 l0.length c0, .slice A1 l1.length c1] 31)) l1 [.slice A1 l1.length c1] := ⟨A1, c1, rfl, hc1, Kd.C_below hr1 b⟩
  have h0 := blk_cell (blk_new w (Obj.cells #[.slice A0 l0.length c0, .slice A1 l1.length c1] 31)) 0
  have h1 := blk_cell (blk_new w (Obj.cells #[.slice A0 l0.length c0, .slice A1 l1.length c1] 31)) 1
  refine ⟨rfl, by decide, fun _ => ⟨_, rfl, fun j p hp => ?_⟩⟩
  rcases j with _ | _ | j
  · have hp : l0 = p := by simpa using hp
    subst hp
    refine ⟨_, rfl, k0, fun i z hu => ?_⟩
    cases i with
    | zero =>
      have hu : Value.slice A0 l0.length c0 = z := by simpa using hu
      subst hu
      exact h0
    | succ i => simp at hu
  · have hp : l1 = p := by simpa using hp
    subst hp
    refine ⟨_, rfl, k1, fun i z hu => ?_⟩
    cases i with
    | zero =>
      have hu : Value.slice A1 l1.length c1 = z := by simpa using hu
      subst hu
      exact h1
    | succ i => simp at hu
  · simp at hp
theorem alike_iff (l m : List (List Int)) : (l.length == m.length && (List.range l.length).all fun j => (rd_L1 l (j : Int)).length == (rd_L1 m (j : Int)).length) = true ↔ Alike l m := by
  unfold Alike
  simp [List.all_eq_true]
set_option maxHeartbeats 4000000 in
set_option maxRecDepth 100000 in
theorem impl_SameSize.calls (k : Nat) (A0 : Option Addr) (c0 : Nat) (l0 : List (List Int)) (A1 : Option Addr) (c1 : Nat) (l1 : List (List Int)) (r : Bool) (w : World) (hG : Glob w) (hr0 : Kd.C (Kd.slice 5 (Kd.int .u8)) w A0 l0.length l0) (hc0 : l0.length ≤ c0) (hr1 : Kd.C (Kd.slice 5 (Kd.int .u8)) w A1 l1.length l1) (hc1 : l1.length ≤ c1) (h : impl_SameSize.f k l0 l1 = some r) :
    Calls Tryd.prog 21 #[.slice A0 l0.length c0, .slice A1 l1.length c1] w fun e w' => e = .returned (.bool r) ∧ Below w.heap.size w w' := by
  have HR0 := Aside0.mk hr0
  have HC0 := Aside0.mk hc0
  have HR1 := Aside0.mk hr1
  have HC1 := Aside0.mk hc1
  have HG := Aside0.mk hG
  clear hr0 hc0 hr1 hc1 hG
  unfold impl_SameSize.f at h
  by_cases h0 : Rect l0
  case neg =>
    have i0 : impl_isMatrix.f l0 = some false := by unfold impl_isMatrix.f; rw [decide_eq_false h0]
    rw [if_neg (fun h => h0 h.1)] at h
    obtain rfl := Option.some.inj h
    clear h h0
    go_enter Tryd.func21, Tryd.ntmps21
    go_wp2_with (go_at_call 32; refine (impl_isMatrix.calls A0 c0 l0 false _ HG.out HR0.out HC0.out i0).mono ?_; rintro e w' ⟨rfl, ⟨nd, rfl⟩⟩)
    go_ret
    exact ⟨rfl, pw_below_drewN (Below.refl _ _) _⟩
  have i0 : impl_isMatrix.f l0 = some true := by unfold impl_isMatrix.f; rw [decide_eq_true h0]
  by_cases h1 : Rect l1
  case neg =>
    have i1 : impl_isMatrix.f l1 = some false := by unfold impl_isMatrix.f; rw [decide_eq_false h1]
    rw [if_neg (fun h => h1 h.2)] at h
    obtain rfl := Option.some.inj h
    clear h h0 h1
    go_enter Tryd.func21, Tryd.ntmps21
    go_wp2_with (fail)
    refine (impl_isMatrix.calls A0 c0 l0 true _ HG.out HR0.out HC0.out i0).mono ?_
    rintro e w' ⟨rfl, ⟨nd, rfl⟩⟩
    dsimp only
    go_wp2_with (fail)
    refine (impl_isMatrix.calls A1 c1 l1 false _ (HG.out.below (pw_below_drewN (Below.refl _ _) nd)) (Kd.C_below HR1.out (pw_below_drewN (Below.refl _ _) nd)) HC1.out i1).mono ?_
    rintro e w' ⟨rfl, ⟨nd2, rfl⟩⟩
    dsimp only
    go_wp2
    go_ret
    exact ⟨rfl, pw_below_drewN (Below.refl _ _) _⟩
  have i1 : impl_isMatrix.f l1 = some true := by unfold impl_isMatrix.f; rw [decide_eq_true h1]
  rw [if_pos ⟨h0, h1⟩] at h
  obtain ⟨x, hx, h⟩ := Option.bind_eq_some_iff.mp h
  obtain ⟨y, hy, h⟩ := Option.bind_eq_some_iff.mp h
  have H := Aside0.mk (Option.some.inj h)
  have HX := Aside0.mk hx
  have HY := Aside0.mk hy
  clear h h0 h1 hx hy
  go_enter Tryd.func21, Tryd.ntmps21
  go_wp2_with (fail)
  refine (impl_isMatrix.calls A0 c0 l0 true _ HG.out HR0.out HC0.out i0).mono ?_
  rintro e w' ⟨rfl, ⟨nd, rfl⟩⟩
  dsimp only
  go_wp2_with (fail)
  refine (impl_isMatrix.calls A1 c1 l1 true _ (HG.out.below (pw_below_drewN (Below.refl _ _) nd)) (Kd.C_below HR1.out (pw_below_drewN (Below.refl _ _) nd)) HC1.out i1).mono ?_
  rintro e w' ⟨rfl, ⟨nd2, rfl⟩⟩
  have HB := Aside0.mk (pw_below_drewN (Below.refl w.heap.size w) (nd + nd2))
  dsimp only
  go_wp2_with (fail)
  refine (impl_rows.calls k A0 c0 l0 x _ (Kd.C_below HR0.out HB.out) HC0.out HX.out).mono ?_
  rintro e w3 ⟨v3, rfl, hS3, hb⟩
  have HB3 := Aside0.mk (HB.out.trans (hb.mono HB.out.size))
  obtain ⟨Ax, cx, rfl⟩ := Kd.S_slice hS3
  obtain ⟨_, hcx, hCx⟩ := Kd.S_reads' hS3
  have HCX := Aside0.mk hcx
  have HRX := Aside0.mk hCx
  clear HB hb hS3 hcx hCx
  dsimp only
  go_wp2_with (fail)
  refine (impl_rows.calls k A1 c1 l1 y _ (Kd.C_below HR1.out HB3.out) HC1.out HY.out).mono ?_
  rintro e w4 ⟨v4, rfl, hS4, hb⟩
  have HB4 := Aside0.mk (HB3.out.trans (hb.mono HB3.out.size))
  have HRX4 := Aside0.mk (Kd.C_below HRX.out hb)
  obtain ⟨Ay, cy, rfl⟩ := Kd.S_slice hS4
  obtain ⟨_, hcy, hCy⟩ := Kd.S_reads' hS4
  have HCY := Aside0.mk hcy
  have HRY := Aside0.mk hCy
  clear HB3 HRX hb hS4 hcy hCy
  dsimp only
  go_wp2_with (fail)
  refine (doorSame.calls Ax cx x Ay cy y _ (HG.out.below HB4.out) HRX4.out HCX.out HRY.out HCY.out).mono ?_
  rintro e w' ⟨v, rfl, hv, ⟨nd3, rfl⟩⟩
  dsimp only
  rcases hv with ⟨ha, rfl⟩ | ⟨hno, t, a, rfl⟩
  · have e1 := (alike_iff x y).mpr ha
    have H' := H.out
    rw [e1] at H'
    subst H'
    clear H e1 ha
    go_wp2
    go_ret
    exact ⟨rfl, pw_below_drewN HB4.out _⟩
  · have e1 : (x.length == y.length && (List.range x.length).all fun j => (rd_L1 x (j : Int)).length == (rd_L1 y (j : Int)).length) = false := by
      rw [← Bool.not_eq_true, alike_iff]; exact hno
    have H' := H.out
    rw [e1] at H'
    subst H'
    clear H e1 hno
    go_wp2
    go_ret
    exact ⟨rfl, pw_below_drewN HB4.out _⟩
end Go.Proofs.YtladpdeneiaaeaaDoor.PShp
