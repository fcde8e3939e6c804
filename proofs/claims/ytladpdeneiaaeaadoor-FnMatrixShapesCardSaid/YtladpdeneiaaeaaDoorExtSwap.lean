import Derived.Test.YtladpdeneiaaeaaDoorPShpx2
import Derived.Outline
import Derived.Deep.QuietTactic
import Derived.BigQuiet
namespace Go.Proofs.YtladpdeneiaaeaaDoor.PShp
open Go.RowKit Go.Proofs.YtladpdeneiaaeaaDoorW.PrintWords Go.Proofs.YtladpdeneiaaeaaDoorW.PrintLast Go.Proofs.YtladpdeneiaaeaaDoorW.PrintMore
set_option linter.unusedVariables false
/-- Two rows change places. -/
def swp (xs : List (List Int)) (i j : Int) : List (List Int) := (xs.set j.toNat (rd_L1 xs i)).set i.toNat (rd_L1 xs j)
set_option maxHeartbeats 8000000 in
set_option maxRecDepth 100000 in
theorem swapRows.calls (g n cap : Nat) (xs : List (List Int)) (i j : Int) (W : World) (base : Nat) (ok : Nat → Prop) (hR : Kd.R (Kd.slice 5 (Kd.int .u8)) 25 W base ok (.slice (some ⟨g, 0, none⟩) n cap) xs)
    (hi : 0 ≤ i ∧ i < n) (hj : 0 ≤ j ∧ j < n) :
    Calls Tryd.prog 52 #[.slice (some ⟨g, 0, none⟩) n cap, .int .i64 i, .int .i64 j] W fun e w' => e = .returned .nilIface ∧ Kd.R (Kd.slice 5 (Kd.int .u8)) 25 w' base ok (.slice (some ⟨g, 0, none⟩) n cap) (swp xs i j) ∧ (base ≤ g → Below base W w') := by
  obtain ⟨p, rfl⟩ := Int.eq_ofNat_of_zero_le hi.1
  obtain ⟨q, rfl⟩ := Int.eq_ofNat_of_zero_le hj.1
  have hp : p < n := by omega
  have hq : q < n := by omega
  obtain ⟨ce, hcl, hM, hcc, hfr⟩ := Kd.R_elem hR [] (p : Int) hi.1 hi.2
  obtain ⟨v, rfl, gv⟩ := hM
  obtain ⟨ce2, hcl2, hM2, hcc2, hfr2⟩ := Kd.R_elem hR [] (q : Int) hj.1 hj.2
  obtain ⟨u, rfl, gu⟩ := hM2
  have x1 := hcc 0 _ rfl
  have x2 := hcc2 0 _ rfl
  have f1 := hfr 0
  have f2 := hfr2 0
  simp only [show ((Kd.slice 5 (Kd.int .u8))).sz = 1 from rfl, Nat.mul_one, Nat.add_zero, Int.toNat_natCast] at x1 x2 f1 f2
  have hlen : xs.length = n := (Kd.R_reads' hR).1.symm
  have S1 := Kd.R_seg hR (q : Int) hj.1 hj.2 (seg := [v]) (j := 0) (okp := fun k => ok k ∧ k ≠ g) hcl2 hcc2 (Nat.le_refl 1) (x' := xs.getD (p : Int).toNat []) ⟨v, rfl, gv⟩ (fun k hk => hk)
  have hR1 := S1.1
  have hwrite : ∀ k, (ok k ∧ k ≠ g) → (W.setCells g ((q : Int).toNat * (Kd.slice 5 (Kd.int .u8)).sz + 0) [v]).heap[k]? = W.heap[k]? := fun k hk => setCells_far _ _ k hk.2
  have gu1 : (Kd.slice 5 (Kd.int .u8)).M (W.setCells g ((q : Int).toNat * (Kd.slice 5 (Kd.int .u8)).sz + 0) [v]) base (fun k => ok k ∧ k ≠ g) (xs.getD (q : Int).toNat []) [u] := (Kd.slice 5 (Kd.int .u8)).M_move hwrite ⟨u, rfl, gu⟩
  obtain ⟨ce3, hcl3, hM3, hcc3, hfr3⟩ := Kd.R_elem hR1 [] (p : Int) (Int.natCast_nonneg p) hi.2
  obtain ⟨t, rfl, _⟩ := hM3
  have S2 := Kd.R_seg hR1 (p : Int) (Int.natCast_nonneg p) hi.2 (seg := [u]) (j := 0) (okp := fun k => ok k ∧ k ≠ g) hcl3 hcc3 (Nat.le_refl 1) (x' := xs.getD (q : Int).toNat []) gu1 (fun k hk => hk)
  have HR2 := Aside0.mk S2.1
  have x3 := hcc3 0 _ rfl
  have f3 := hfr3 0
  simp only [show ((Kd.slice 5 (Kd.int .u8))).sz = 1 from rfl, Nat.mul_one, Nat.add_zero, Int.toNat_natCast] at x3 f3 HR2
  have x3 : (W.setCell ⟨g, q, none⟩ v).cell? ⟨g, p, none⟩ = some t := x3
  have f3 : (W.setCell ⟨g, q, none⟩ v).frozen? ⟨g, p, none⟩ = false := f3
  have HR2 : Aside0 (Kd.R (Kd.slice 5 (Kd.int .u8)) 25 ((W.setCell ⟨g, q, none⟩ v).setCell ⟨g, p, none⟩ u) base ok (.slice (some ⟨g, 0, none⟩) n cap) (swp xs (p : Int) (q : Int))) := HR2
  clear S1 S2 hR1 hwrite gu1 hcl3 hcc3 hfr3
  obtain ⟨A1, k1, rfl⟩ := Kd.R_slice gv
  obtain ⟨A2, k2, rfl⟩ := Kd.R_slice gu
  generalize hL1 : (xs.getD (p : Int).toNat []).length = L1 at x1 x3 f3 HR2 hcl hcc
  generalize hL2 : (xs.getD (q : Int).toNat []).length = L2 at x2 HR2 hcl2 hcc2
  have a1 : decide ((p : Int) < 0) = false := decide_eq_false (by omega)
  have a2 : decide ((q : Int) < 0) = false := decide_eq_false (by omega)
  have a3 : decide ((n : Int) ≤ (p : Int)) = false := decide_eq_false (by omega)
  have a4 : decide ((n : Int) ≤ (q : Int)) = false := decide_eq_false (by omega)
  have a5 : decide (n ≤ p) = false := decide_eq_false (by omega)
  have a6 : decide (n ≤ q) = false := decide_eq_false (by omega)
  have c1 : decide ((p : Int) < (n : Int)) = true := decide_eq_true (by omega)
  have c2 : decide ((q : Int) < (n : Int)) = true := decide_eq_true (by omega)
  have c5 : (p : Int) < (n : Int) := by omega
  have c6 : (q : Int) < (n : Int) := by omega
  have c7 : 0 ≤ (p : Int) := by omega
  have c8 : 0 ≤ (q : Int) := by omega
  have HRR := Aside0.mk hR
  have GV := Aside0.mk gv
  have GU := Aside0.mk gu
  clear hR gv gu hcl hcl2 hfr hfr2 hi hj hcc hcc2
  go_enter Tryd.func52, Tryd.ntmps52
  go_wp2
  go_region
  all_goals go_wp2
  go_ret
  exact ⟨rfl, by (with_reducible repeat (first | apply Kd.R_alloc | apply Kd.R_drewN | apply Kd.R_drew)); exact HR2.out, fun hb => by repeat (first | exact Below.refl _ _ | apply Below.drew | (refine Below.setCell ?_ hb _))⟩
set_option maxHeartbeats 8000000 in
theorem swapOut.calls (A : Option Addr) (n cap : Nat) (i j : Int) (W : World) (hG : Glob W) (h : ¬ ((0 ≤ i ∧ i < n) ∧ 0 ≤ j ∧ j < n)) :
    Calls Tryd.prog 52 #[.slice A n cap, .int .i64 i, .int .i64 j] W fun e w' => ∃ t a, e = .returned (.iface t (.pointer (some a))) ∧ Drawn0 W w' := by
  obtain ⟨t2, a2, g2⟩ := hG.s2
  by_cases h1 : i < 0
  · have b1 : decide (i < 0) = true := decide_eq_true h1
    clear h
    go_enter Tryd.func52, Tryd.ntmps52
    go_wp2
    go_ret
    first
    | exact ⟨_, _, rfl, by repeat (first | exact Drawn0.refl _ | apply Drawn0.step)⟩
    | exact ⟨⟨_, _, rfl⟩, by repeat (first | exact Drawn0.refl _ | apply Drawn0.step)⟩
  have b1 : decide (i < 0) = false := decide_eq_false h1
  by_cases h2 : (n : Int) ≤ i
  · have b2 : decide ((n : Int) ≤ i) = true := decide_eq_true h2
    clear h
    go_enter Tryd.func52, Tryd.ntmps52
    go_wp2
    go_ret
    first
    | exact ⟨_, _, rfl, by repeat (first | exact Drawn0.refl _ | apply Drawn0.step)⟩
    | exact ⟨⟨_, _, rfl⟩, by repeat (first | exact Drawn0.refl _ | apply Drawn0.step)⟩
  have b2 : decide ((n : Int) ≤ i) = false := decide_eq_false h2
  by_cases h3 : j < 0
  · have b3 : decide (j < 0) = true := decide_eq_true h3
    clear h
    go_enter Tryd.func52, Tryd.ntmps52
    go_wp2
    go_ret
    first
    | exact ⟨_, _, rfl, by repeat (first | exact Drawn0.refl _ | apply Drawn0.step)⟩
    | exact ⟨⟨_, _, rfl⟩, by repeat (first | exact Drawn0.refl _ | apply Drawn0.step)⟩
  have b3 : decide (j < 0) = false := decide_eq_false h3
  by_cases h4 : (n : Int) ≤ j
  · have b4 : decide ((n : Int) ≤ j) = true := decide_eq_true h4
    clear h
    go_enter Tryd.func52, Tryd.ntmps52
    go_wp2
    go_ret
    first
    | exact ⟨_, _, rfl, by repeat (first | exact Drawn0.refl _ | apply Drawn0.step)⟩
    | exact ⟨⟨_, _, rfl⟩, by repeat (first | exact Drawn0.refl _ | apply Drawn0.step)⟩
  exact absurd ⟨⟨by omega, by omega⟩, by omega, by omega⟩ h
set_option maxHeartbeats 8000000 in
theorem doorSwap.calls (g n cap : Nat) (xs : List (List Int)) (i j : Int) (W : World) (base : Nat) (ok : Nat → Prop) (hR : Kd.R (Kd.slice 5 (Kd.int .u8)) 25 W base ok (.slice (some ⟨g, 0, none⟩) n cap) xs)
    (hi : 0 ≤ i ∧ i < n) (hj : 0 ≤ j ∧ j < n) :
    Calls Tryd.prog 36 #[.slice (some ⟨g, 0, none⟩) n cap, .int .i64 i, .int .i64 j] W fun e w' => e = .returned .nilIface ∧ Kd.R (Kd.slice 5 (Kd.int .u8)) 25 w' base ok (.slice (some ⟨g, 0, none⟩) n cap) (swp xs i j) ∧ (base ≤ g → Below base W w') := by
  have HR := Aside0.mk hR
  have HI := Aside0.mk hi
  have HJ := Aside0.mk hj
  clear hR hi hj
  go_enter Tryd.func36, Tryd.ntmps36
  go_wp2_with (fail)
  refine (swapRows.calls g n cap xs i j _ base ok HR.out HI.out HJ.out).mono ?_
  rintro e w' ⟨rfl, h1, h2⟩
  have H1 := Aside0.mk h1
  have H2 := Aside0.mk h2
  clear h1 h2
  dsimp only
  go_wp2
  go_ret
  exact ⟨rfl, H1.out, H2.out⟩
set_option maxHeartbeats 8000000 in
theorem doorSwapOut.calls (A : Option Addr) (n cap : Nat) (i j : Int) (W : World) (hG : Glob W) (h : ¬ ((0 ≤ i ∧ i < n) ∧ 0 ≤ j ∧ j < n)) :
    Calls Tryd.prog 36 #[.slice A n cap, .int .i64 i, .int .i64 j] W fun e w' => ∃ t a, e = .returned (.iface t (.pointer (some a))) ∧ Drawn0 W w' := by
  have HG := Aside0.mk hG
  have H := Aside0.mk h
  clear hG h
  go_enter Tryd.func36, Tryd.ntmps36
  go_wp2_with (fail)
  refine (swapOut.calls A n cap i j _ HG.out H.out).mono ?_
  rintro e w' ⟨t, a, rfl, ⟨nd, rfl⟩⟩
  dsimp only
  go_wp2
  go_ret
  exact ⟨_, _, rfl, by repeat (first | exact Drawn0.refl _ | apply Drawn0.step)⟩
/-- What 'SwapRows' of the thin package answers. -/
def impl_SwapRows.f (k : Nat) (l : List (List Int)) (i j : Int) : Option (List (List Int) × Bool) :=
  if Rect l then (impl_rows.f k l).bind fun x => if (0 ≤ i ∧ i < (x.length : Int)) ∧ 0 ≤ j ∧ j < (x.length : Int) then some (swp x i j, true) else some ([], false) else some ([], false)
theorem impl_SwapRows.mono : ∀ a0 a1 a2 k, LeO (impl_SwapRows.f k a0 a1 a2) (impl_SwapRows.f (k + 1) a0 a1 a2) := by
  intro a0 a1 a2 k
  unfold impl_SwapRows.f
  refine LeO.ite ?_ (LeO.refl _)
  exact LeO.bind (impl_rows.mono _ _) (fun _ => LeO.refl _)
set_option maxHeartbeats 8000000 in
set_option maxRecDepth 100000 in
theorem impl_SwapRows.calls (k : Nat) (A0 : Option Addr) (c0 : Nat) (l0 : List (List Int)) (a1 : Int) (a2 : Int) (r1 : List (List Int)) (r2 : Bool) (w : World) (hG : Glob w) (hr0 : Kd.C (Kd.slice 5 (Kd.int .u8)) w A0 l0.length l0) (hc0 : l0.length ≤ c0) (h : impl_SwapRows.f k l0 a1 a2 = some (r1, r2)) :
    Calls Tryd.prog 20 #[.slice A0 l0.length c0, .int .i64 a1, .int .i64 a2] w fun e w' => ∃ v0_ : Value, e = .returned (.tuple #[v0_, .bool r2]) ∧ Kd.R (Kd.slice 5 (Kd.int .u8)) 25 w' w.heap.size (fun _ => True) v0_ r1 ∧ Below w.heap.size w w' := by
  have HR0 := Aside0.mk hr0
  have HC0 := Aside0.mk hc0
  have HG := Aside0.mk hG
  clear hr0 hc0 hG
  unfold impl_SwapRows.f at h
  by_cases h0 : Rect l0
  case neg =>
    have i0 : impl_isMatrix.f l0 = some false := by unfold impl_isMatrix.f; rw [decide_eq_false h0]
    rw [if_neg h0] at h
    injection h with h
    injection h with e1 e2
    subst e1 e2
    clear h0
    go_enter Tryd.func20, Tryd.ntmps20
    go_wp2_with (go_at_call 32; refine (impl_isMatrix.calls A0 c0 l0 false _ HG.out HR0.out HC0.out i0).mono ?_; rintro e w' ⟨rfl, ⟨nd, rfl⟩⟩)
    go_ret2
    exact ⟨_, rfl, Kd.R_nil _ _ _ _ _, pw_below_drewN (Below.refl _ _) _⟩
  have i0 : impl_isMatrix.f l0 = some true := by unfold impl_isMatrix.f; rw [decide_eq_true h0]
  rw [if_pos h0] at h
  obtain ⟨x, hx, h⟩ := Option.bind_eq_some_iff.mp h
  have HX := Aside0.mk hx
  have H := Aside0.mk h
  clear h hx h0
  go_enter Tryd.func20, Tryd.ntmps20
  go_wp2_with (fail)
  refine (impl_isMatrix.calls A0 c0 l0 true _ HG.out HR0.out HC0.out i0).mono ?_
  rintro e w' ⟨rfl, ⟨nd, rfl⟩⟩
  have HB := Aside0.mk (pw_below_drewN (Below.refl w.heap.size w) nd)
  dsimp only
  go_wp2_with (fail)
  refine (impl_rows.calls k A0 c0 l0 x _ (Kd.C_below HR0.out HB.out) HC0.out HX.out).mono ?_
  rintro e w3 ⟨v3, rfl, hS3, hb⟩
  have HB3 := Aside0.mk (HB.out.trans (hb.mono HB.out.size))
  have HS := Aside0.mk (Kd.R_lower (Kd.S_R hS3) HB.out.size)
  clear HB hb hS3
  dsimp only
  by_cases hin : (0 ≤ a1 ∧ a1 < (x.length : Int)) ∧ 0 ≤ a2 ∧ a2 < (x.length : Int)
  · have H' := H.out
    rw [if_pos hin] at H'
    injection H' with H'
    injection H' with e1 e2
    subst e1 e2
    clear H
    obtain ⟨g, cap, rfl, hbg, _, _⟩ := Kd.R_form HS.out (by omega)
    have HIN := Aside0.mk hin
    clear hin
    go_wp2_with (fail)
    refine (doorSwap.calls g x.length cap x a1 a2 _ w.heap.size _ HS.out HIN.out.1 HIN.out.2).mono ?_
    rintro e w4 ⟨rfl, h1, h2⟩
    have H1 := Aside0.mk h1
    have H2 := Aside0.mk (HB3.out.trans (h2 hbg))
    clear h1 h2
    dsimp only
    go_wp2
    go_ret2
    exact ⟨_, rfl, H1.out, H2.out⟩
  · have H' := H.out
    rw [if_neg hin] at H'
    injection H' with H'
    injection H' with e1 e2
    subst e1 e2
    clear H
    obtain ⟨Ax, cx, rfl⟩ := Kd.R_slice HS.out
    have HIN := Aside0.mk hin
    clear hin
    go_wp2_with (fail)
    refine (doorSwapOut.calls Ax x.length cx a1 a2 _ (HG.out.below HB3.out) HIN.out).mono ?_
    rintro e w4 ⟨t, a, rfl, ⟨nd2, rfl⟩⟩
    dsimp only
    go_wp2
    go_ret2
    exact ⟨_, rfl, Kd.R_nil _ _ _ _ _, pw_below_drewN HB3.out _⟩
end Go.Proofs.YtladpdeneiaaeaaDoor.PShp
