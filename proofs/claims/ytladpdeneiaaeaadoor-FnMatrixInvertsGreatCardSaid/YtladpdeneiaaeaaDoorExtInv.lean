import Derived.Test.YtladpdeneiaaeaaDoorExtInvB
import Derived.Test.YtladpdeneiaaeaaDoorInvDec
import Derived.Test.YtladpdeneiaaeaaDoorPInvx1
/-! Invert of the library, of its door, of the thin package: walked. -/
namespace Go.Proofs.YtladpdeneiaaeaaDoor.Inv
open Go.RowKit Go.Proofs.YtladpdeneiaaeaaDoorW.PrintWords Go.Proofs.YtladpdeneiaaeaaDoorW.PrintLast Go.Proofs.YtladpdeneiaaeaaDoorW.PrintMore
set_option linter.unusedVariables false
def zer (n m : Nat) : Mat := List.replicate n (List.replicate m 0)
theorem rep_at {α : Type} (n i : Nat) (x d : α) (h : i < n) : (List.replicate n x).getD i d = x := by
  rw [List.getD_eq_getElem?_getD, List.getElem?_replicate, if_pos h]; rfl
theorem zer_sh (n m : Nat) : Sh n m (zer n m) := by
  refine ⟨by unfold zer; rw [List.length_replicate], fun i hi => ?_⟩
  unfold zer
  rw [rep_at n i _ _ hi]
  exact ⟨List.length_replicate, fun j hj => by rw [rep_at m j _ _ hj]; exact ⟨by decide, by decide⟩⟩
theorem zeros_loop (n m : Nat) (hn : n < 1000000) (hm : m < 1000000) (d : Nat) : ∀ i (V : Mat), i + d = n → V.length = n → (∀ j, j < i → V.getD j [] = List.replicate m 0) → PInv.spec_Zeros.l0 (d + 1) (m : Int) V (n : Int) (i : Int) = some (zer n m) := by
  induction d with
  | zero =>
    intro i V hi hl h
    rw [PInv.spec_Zeros.l0, if_neg (by omega)]
    congr 1
    refine ext_getD [] (by unfold zer; rw [List.length_replicate, hl]) fun j hj => ?_
    unfold zer
    rw [h j (by omega), rep_at n j _ _ (by omega)]
  | succ d ih =>
    intro i V hi hl h
    rw [PInv.spec_Zeros.l0, if_pos (by omega), if_pos (by omega), if_pos (by omega), if_pos (by omega), if_pos (by omega), nxt (by omega)]
    refine ih (i + 1) _ (by omega) (by rw [List.length_set, hl]) fun j hj => ?_
    rw [Int.toNat_natCast, Int.toNat_natCast, getD_set _ _ _ _ _ (by omega)]
    by_cases e : i = j
    · rw [if_pos e]
    · rw [if_neg e]; exact h j (by omega)
theorem zeros_eq {n m : Nat} (hn : n < 1000000) (hm : m < 1000000) : PInv.spec_Zeros.f (n + 1) (n : Int) (m : Int) = some (zer n m) := by
  unfold PInv.spec_Zeros.f
  rw [if_pos (by omega), if_pos (by omega), Option.bind_some, Int.toNat_natCast, List.length_replicate]
  exact zeros_loop n m hn hm n 0 _ (by omega) List.length_replicate (fun j h => absurd h (by omega))
def unitM (n : Nat) : Mat := unitL n 0 (zer n n)
theorem unitL_sh {n : Nat} (d : Nat) : ∀ i (V : Mat), i + d = n → Sh n n V → Sh n n (unitL d i V) := by
  induction d with
  | zero => exact fun i V _ h => h
  | succ d ih => exact fun i V hi h => ih (i + 1) _ (by omega) (sh_set h (by omega) (rw_set (h.2 i (by omega)) 1 ⟨by decide, by decide⟩))
theorem unitM_sh (n : Nat) : Sh n n (unitM n) := unitL_sh n 0 _ (by omega) (zer_sh n n)
theorem aug_sh {n L M : Nat} {a b : Mat} (ha : Sh n L a) (hb : Sh n M b) : Sh n (L + M) (aug a b) := by
  refine ⟨by unfold aug; rw [List.length_zipWith, ha.1, hb.1, Nat.min_self], fun i hi => ?_⟩
  rw [aug_at (by rw [ha.1, hb.1]) (by rw [ha.1]; exact hi)]
  exact rw_app (ha.2 i hi) (hb.2 i hi)
/-- The inverse of a square matrix, as the program reckons it. -/
def inv (n : Nat) (a : Mat) : Option Mat := match gauss MM XX II n (aug a (unitM n)) with
  | none => none
  | some G => some (right n G)
theorem At.lower {W : World} {b b' g n cap : Nat} {xs : Mat} (h : At W b g n cap xs) (hb : b' ≤ b) : At W b' g n cap xs := Kd.S_lower h hb
theorem Drawn0.bel {w w' : World} {B : Nat} (h : Drawn0 w w') : Below w.heap.size w w' := by
  obtain ⟨m, rfl⟩ := h
  exact pw_below_drewN (Below.refl _ _) m
set_option maxHeartbeats 4000000 in
theorem isSquare.calls (A : Option Addr) (n c : Nat) (a : Mat) (w : World) (hr : Kd.C kr w A n a) (hn : 0 < n) (hS : Sh n n a) : Calls Tryd.prog 54 #[.slice A n c] w fun e w' => e = .returned (.bool true) ∧ Drawn0 w w' := by
  obtain ⟨ad, Aa, ca, rfl, hxa, hla, hia⟩ := PInv.at_L1 hr 0 (by omega) (by omega)
  have ea : (PInv.rd_L1 a 0).length = n := (hS.2 0 hn).1
  rw [ea] at hxa
  have hxa : w.cell? ad = some (.slice Aa n ca) := by simpa [Addr.add] using hxa
  have n0 : decide (n ≤ 0) = false := decide_eq_false (by omega)
  have n1 : decide ((n : Int) ≤ 0) = false := decide_eq_false (by omega)
  have n2 : (0 : Int) < (n : Int) := by omega
  have n3 : ((n : Int) == (n : Int)) = true := beq_self_eq_true _
  clear hr hS hla hia ea hn
  go_enter Tryd.func54, Tryd.ntmps54
  go_wp2
  go_ret
  exact ⟨rfl, by repeat (first | exact Drawn0.refl _ | apply Drawn0.step)⟩
/-- What is left in memory, and what is answered. -/
def InvPost (n : Nat) (a : Mat) (w w' : World) (v ev : Value) : Prop :=
  (inv n a = none ∧ v = .slice none 0 0 ∧ ∃ t ad, ev = .iface t (.pointer (some ad))) ∨ (∃ R g cap, inv n a = some R ∧ v = .slice (some ⟨g, 0, none⟩) n cap ∧ ev = .nilIface ∧ At w' w.heap.size g n cap R)
set_option maxHeartbeats 8000000 in
set_option maxRecDepth 100000 in
theorem matInvert.calls (A : Option Addr) (n c : Nat) (a : Mat) (w : World) (hG : PInv.Glob w) (hr : Kd.C kr w A n a) (hc : n ≤ c) (hn : 0 < n) (hn2 : n < 1000) (hS : Sh n n a) :
    Calls Tryd.prog 55 #[.slice A n c] w fun e w' => ∃ v ev, e = .returned (.tuple #[v, ev]) ∧ InvPost n a w w' v ev ∧ Below w.heap.size w w' := by
  have HG := Aside0.mk hG
  have HR := Aside0.mk hr
  have HC := Aside0.mk hc
  have HN := Aside0.mk hn
  have HN2 := Aside0.mk hn2
  have HS := Aside0.mk hS
  clear hG hr hc hn hn2 hS
  go_enter Tryd.func55, Tryd.ntmps55
  go_wp2_with (fail)
  refine (isSquare.calls A n c a _ HR.out HN.out HS.out).mono ?_
  rintro ex w1 ⟨rfl, hd⟩
  have HB1 := Aside0.mk (Drawn0.bel (B := 0) hd)
  clear hd
  try dsimp only
  go_wp2_with (fail)
  refine (identity.calls (n + 1) n (zer n n) _ HN.out (by have := HN2.out; omega) (zeros_eq (by have := HN2.out; omega) (by have := HN2.out; omega)) (zer_sh n n)).mono ?_
  rintro ex w2 ⟨gi, ci, rfl, hI, hb2⟩
  have HI := Aside0.mk (show At w2 w1.heap.size gi n ci (unitM n) from hI)
  have HB2 := Aside0.mk (below_step HB1.out hb2)
  clear hI hb2
  try dsimp only
  go_wp2_with (fail)
  refine (augment.calls (n + 1) n n n A c a (some ⟨gi, 0, none⟩) ci (unitM n) (zer n (n + n)) _ (Kd.C_below HR.out HB2.out) HC.out HI.out.reads.2.2 HI.out.reads.2.1 HS.out (unitM_sh n) HN.out (by have := HN2.out; omega) HN.out HN.out (by have := HN2.out; omega) (zeros_eq (by have := HN2.out; omega) (by have := HN2.out; omega)) (zer_sh n (n + n))).mono ?_
  rintro ex w3 ⟨ga, ca, rfl, hA, hb3⟩
  have HA := Aside0.mk (At.lower hA HB2.out.size)
  have HB3 := Aside0.mk (below_step HB2.out hb3)
  clear hA hb3
  try dsimp only
  go_wp2_with (fail)
  refine (gaussian.calls w _ ga n ca (n + n) (aug a (unitM n)) HG.out HB3.out HA.out (aug_sh HS.out (unitM_sh n)) HN.out (by omega) (by have := HN2.out; omega)).mono ?_
  rintro ex w4 ⟨hres, hb4⟩
  have HB4 := Aside0.mk hb4
  clear hb4 HA HB1 HB2 HB3
  rcases hres with ⟨hg, t, ad, rfl⟩ | ⟨G, hg, rfl, hA⟩
  · have HV : Aside0 (inv n a = none) := ⟨by unfold inv; rw [hg]⟩
    clear hg
    try dsimp only
    go_wp2_with (fail)
    go_ret2
    exact ⟨_, _, rfl, .inl ⟨HV.out, rfl, _, _, rfl⟩, HB4.out⟩
  · have HV : Aside0 (inv n a = some (right n G)) := ⟨by unfold inv; rw [hg]⟩
    have HGG : Aside0 (Sh n (n + n) G) := ⟨((same fld (L := n + n) (by omega) (aug_sh HS.out (unitM_sh n))).2 G hg).2.1⟩
    have HA := Aside0.mk hA
    have em : wrap64 ((n : Int) * 2) = ((n + n : Nat) : Int) := by have := HN2.out; unfold wrap64; omega
    obtain ⟨M, hM⟩ : ∃ M, M = n + n := ⟨_, rfl⟩
    rw [← hM] at em
    have em2 : IntKind.i64.wrap ((n : Int) * 2) = (M : Int) := by rw [i64_w]; exact em
    rw [← hM] at HGG
    have HM := Aside0.mk hM
    clear hg hA hM
    try dsimp only
    go_wp2_with (fail)
    (try simp only [em2, em])
    refine (subMatrix.calls (n + 1) n M ga ca G (zer n n) _ w.heap.size HM.out HA.out HGG.out HN.out (by have := HN2.out; omega) (zeros_eq (by have := HN2.out; omega) (by have := HN2.out; omega)) (zer_sh n n)).mono ?_
    rintro ex w5 ⟨g5, c5, rfl, h5, hb5⟩
    have H5 := Aside0.mk (At.lower h5 HB4.out.size)
    have HB5 := Aside0.mk (below_step HB4.out hb5)
    clear h5 hb5
    try dsimp only
    go_wp2_with (fail)
    go_ret2
    exact ⟨_, _, rfl, .inr ⟨_, _, _, HV.out, rfl, rfl, H5.out⟩, HB5.out⟩
set_option maxHeartbeats 8000000 in
theorem doorInvert.calls (A : Option Addr) (n c : Nat) (a : Mat) (w : World) (hG : PInv.Glob w) (hr : Kd.C kr w A n a) (hc : n ≤ c) (hn : 0 < n) (hn2 : n < 1000) (hS : Sh n n a) :
    Calls Tryd.prog 39 #[.slice A n c] w fun e w' => ∃ v ev, e = .returned (.tuple #[v, ev]) ∧ InvPost n a w w' v ev ∧ Below w.heap.size w w' := by
  have HG := Aside0.mk hG
  have HR := Aside0.mk hr
  have HC := Aside0.mk hc
  have HN := Aside0.mk hn
  have HN2 := Aside0.mk hn2
  have HS := Aside0.mk hS
  clear hG hr hc hn hn2 hS
  go_enter Tryd.func39, Tryd.ntmps39
  go_wp2_with (fail)
  refine (matInvert.calls A n c a _ HG.out HR.out HC.out HN.out HN2.out HS.out).mono ?_
  rintro ex w1 ⟨v, ev, rfl, hp, hb⟩
  have HP := Aside0.mk hp
  have HB := Aside0.mk hb
  clear hp hb
  try dsimp only
  go_wp2_with (fail)
  go_ret2
  exact ⟨_, _, rfl, HP.out, HB.out⟩
end Go.Proofs.YtladpdeneiaaeaaDoor.Inv
namespace Go.Proofs.YtladpdeneiaaeaaDoor.PInv
open Go.RowKit Go.Proofs.YtladpdeneiaaeaaDoorW.PrintWords Go.Proofs.YtladpdeneiaaeaaDoorW.PrintLast Go.Proofs.YtladpdeneiaaeaaDoorW.PrintMore
open Go.Proofs.YtladpdeneiaaeaaDoor.Inv (Sh Rw)
set_option linter.unusedVariables false
/-- What 'Invert' of the thin package answers. -/
def impl_Invert.f (k : Nat) (l : List (List Int)) : Option (List (List Int) × Bool) :=
  if 0 < l.length ∧ l.length < 1000 ∧ Sh l.length l.length l then
    (impl_rows.f k l).bind fun x => if x = l then (match Inv.inv l.length l with
      | none => (impl_rows.f k []).bind fun y => some (y, false)
      | some R => (impl_rows.f k R).bind fun y => some (y, true)) else none
  else none
theorem impl_Invert.mono : ∀ a0 k, LeO (impl_Invert.f k a0) (impl_Invert.f (k + 1) a0) := by
  intro a0 k
  unfold impl_Invert.f
  refine LeO.ite ?_ (LeO.refl _)
  refine LeO.bind (impl_rows.mono _ _) (fun x => LeO.ite ?_ (LeO.refl _))
  cases Inv.inv a0.length a0 with
  | none => exact LeO.bind (impl_rows.mono _ _) (fun _ => LeO.refl _)
  | some R => exact LeO.bind (impl_rows.mono _ _) (fun _ => LeO.refl _)
theorem rect_sh {l : List (List Int)} (h0 : 0 < l.length) (h : Sh l.length l.length l) : PRow.impl_isMatrix.f l = some true := by
  unfold PRow.impl_isMatrix.f
  rw [decide_eq_true]
  have e : PRow.rd_L1 l 0 = l.getD 0 [] := rfl
  refine ⟨h0, by rw [e, (h.2 0 h0).1]; exact h0, fun x hx => ?_⟩
  obtain ⟨j, hj, rfl⟩ := List.getElem_of_mem hx
  have hj2 := (h.2 j hj).1
  rw [List.getD_eq_getElem?_getD, List.getElem?_eq_getElem hj] at hj2
  rw [e, (h.2 0 h0).1]
  exact hj2
set_option maxHeartbeats 8000000 in
set_option maxRecDepth 100000 in
theorem impl_Invert.calls (k : Nat) (A0 : Option Addr) (c0 : Nat) (l0 : List (List Int)) (r1 : List (List Int)) (r2 : Bool) (w : World) (hG : Glob w) (hr0 : Kd.C (Kd.slice 5 (Kd.int .u8)) w A0 l0.length l0) (hc0 : l0.length ≤ c0) (h : impl_Invert.f k l0 = some (r1, r2)) :
    Calls Tryd.prog 25 #[.slice A0 l0.length c0] w fun e w' => ∃ v0_ : Value, e = .returned (.tuple #[v0_, .bool r2]) ∧ Kd.S (Kd.slice 5 (Kd.int .u8)) 25 w' w.heap.size (fun _ => True) v0_ r1 ∧ Below w.heap.size w w' := by
  unfold impl_Invert.f at h
  by_cases hc : 0 < l0.length ∧ l0.length < 1000 ∧ Sh l0.length l0.length l0
  case neg => rw [if_neg hc] at h; cases h
  rw [if_pos hc] at h
  obtain ⟨h0, h1, h2⟩ := hc
  obtain ⟨x, hx, h⟩ := Option.bind_eq_some_iff.mp h
  by_cases e : x = l0
  case neg => rw [if_neg e] at h; cases h
  rw [if_pos e] at h
  subst e
  have HR0 := Aside0.mk hr0
  have HC0 := Aside0.mk hc0
  have HG := Aside0.mk hG
  have HX := Aside0.mk hx
  have H := Aside0.mk h
  have H0 := Aside0.mk h0
  have H1 := Aside0.mk h1
  have H2 := Aside0.mk h2
  have HI := Aside0.mk (rect_sh h0 h2)
  clear hr0 hc0 hG hx h h0 h1 h2
  go_enter Tryd.func25, Tryd.ntmps25
  go_wp2_with (fail)
  refine (PRow.impl_isMatrix.calls A0 c0 x true _ HG.out.row HR0.out HC0.out HI.out).mono ?_
  rintro e w1 ⟨rfl, hd⟩
  have HB1 := Aside0.mk (Inv.Drawn0.bel (B := 0) hd)
  clear hd
  try dsimp only
  go_wp2_with (fail)
  refine (impl_rows.calls k A0 c0 x x _ (Kd.C_below HR0.out HB1.out) HC0.out HX.out).mono ?_
  rintro e w2 ⟨v2, rfl, hS2, hb2⟩
  obtain ⟨A2, c2, rfl⟩ := Kd.S_slice hS2
  obtain ⟨i1, i2, i3⟩ := Kd.S_reads' hS2
  have HI2 := Aside0.mk i2
  have HI3 := Aside0.mk i3
  have HB2 := Aside0.mk (below_step HB1.out hb2)
  clear hS2 hb2 i1 i2 i3
  try dsimp only
  go_wp2_with (fail)
  refine (Inv.doorInvert.calls A2 x.length c2 x _ (HG.out.below HB2.out) HI3.out HI2.out H0.out H1.out H2.out).mono ?_
  rintro e w3 ⟨v3, ev, rfl, hp, hb3⟩
  have HB3 := Aside0.mk (below_step HB2.out hb3)
  have HBS := Aside0.mk hb3.size
  clear hb3
  rcases hp with ⟨hv, rfl, t, ad, rfl⟩ | ⟨R, g, cap, hv, rfl, rfl, hA⟩
  · have h := H.out
    rw [hv] at h
    obtain ⟨y, hy, h⟩ := Option.bind_eq_some_iff.mp h
    injection h with h
    injection h with e1 e2
    subst e1 e2
    have HY := Aside0.mk hy
    clear hv hy H
    try dsimp only
    go_wp2_with (fail)
    go_region_held_law (fun w' => True) (first | exact trivial | go_keep) (first
      | (go_simp; go_at_call 34
         have hbd := below_drew1 HB3.out
         refine (impl_rows.calls k none 0 [] y _ (Kd.C_nil _ _) (Nat.le_refl _) HY.out).mono ?_
         rintro ex w4 ⟨v4, rfl, hS4, hb4⟩))
    have HS4 := Aside0.mk (Kd.S_lower hS4 hbd.size)
    have HB4 := Aside0.mk (below_step hbd hb4)
    clear hS4 hbd hb4
    go_wp2_with (fail)
    go_ret2
    exact ⟨_, rfl, HS4.out, HB4.out⟩
  · have h := H.out
    rw [hv] at h
    obtain ⟨y, hy, h⟩ := Option.bind_eq_some_iff.mp h
    injection h with h
    injection h with e1 e2
    subst e1 e2
    have HY := Aside0.mk hy
    obtain ⟨q1, q2, q3⟩ := hA.reads
    have HQ1 := Aside0.mk q1
    have HQ2 := Aside0.mk q2
    have HQ3 := Aside0.mk q3
    clear hv hy H hA q1 q2 q3
    try dsimp only
    simp only [HQ1.out]
    go_wp2_with (fail)
    go_region_held_law (fun w' => True) (first | exact trivial | go_keep) (first
      | (go_simp; go_at_call 34
         have hbd := below_drew1 HB3.out
         refine (impl_rows.calls k (some ⟨g, 0, none⟩) cap R y _ (by rw [← HQ1.out]; exact Kd.C_drew HQ3.out) (by rw [← HQ1.out]; exact HQ2.out) HY.out).mono ?_
         rintro ex w4 ⟨v4, rfl, hS4, hb4⟩))
    have HS4 := Aside0.mk (Kd.S_lower hS4 hbd.size)
    have HB4 := Aside0.mk (below_step hbd hb4)
    clear hS4 hbd hb4
    go_wp2_with (fail)
    go_ret2
    exact ⟨_, rfl, HS4.out, HB4.out⟩
end Go.Proofs.YtladpdeneiaaeaaDoor.PInv
