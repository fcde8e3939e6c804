import Derived.Test.YtladpdeneiaaeaaDoorPRowx4
import Derived.Test.YtladpdeneiaaeaaDoorPRowx2
namespace Go.Proofs.YtladpdeneiaaeaaDoor.PRow
open Go.RowKit Go.Proofs.YtladpdeneiaaeaaDoorW.PrintWords Go.Proofs.YtladpdeneiaaeaaDoorW.PrintLast Go.Proofs.YtladpdeneiaaeaaDoorW.PrintMore
set_option linter.unusedVariables false
def laws_FnMatrixRow.f (k : Nat) (row : List Int) (a : List (List Int)) : Option Bool :=
  if (row.length : Int) > 2147483647 then some true
  else (laws_zzFits2.f k a).bind fun z => if z = false then some true else
    (laws_moderate.f k [a, [row]]).bind fun m => if m = false then some true else
      (impl_RowTimes.f k row a).bind fun q => (spec_Rectangular.f k a).bind fun rc =>
        if rc = false ∨ (row.length : Int) ≠ (a.length : Int) then some (!q.2) else
          if q.2 = false then some false else
            (spec_Times.f k [row] a).bind fun t => if 0 < t.length then laws_equalBytes.f k q.1 (rd_L1 t 0) else none
/-- A row of one slice, of two slices: what its reading is. -/
theorem C_one {α : Type} {d : Kd α} (hs : d.sz = 1) {w : World} {g : Nat} {x : α} {v : Value} (hk : d.K w x [v]) (h : w.cell? ⟨g, 0, none⟩ = some v) : d.C w (some ⟨g, 0, none⟩) 1 [x] := by
  refine ⟨rfl, by decide, fun _ => ⟨_, rfl, fun j p hp => ?_⟩⟩
  cases j with
  | zero =>
    have hp : x = p := by simpa using hp
    subst hp
    refine ⟨[v], by rw [hs]; rfl, hk, fun i u hu => ?_⟩
    cases i with
    | zero =>
      have hu : v = u := by simpa using hu
      subst hu
      simpa [Addr.add, hs] using h
    | succ i => simp at hu
  | succ j => simp at hp
theorem C_two {α : Type} {d : Kd α} (hs : d.sz = 1) {w : World} {g : Nat} {x y : α} {v u : Value} (hk : d.K w x [v]) (hk2 : d.K w y [u]) (h : w.cell? ⟨g, 0, none⟩ = some v) (h2 : w.cell? ⟨g, 1, none⟩ = some u) : d.C w (some ⟨g, 0, none⟩) 2 [x, y] := by
  refine ⟨rfl, by decide, fun _ => ⟨_, rfl, fun j p hp => ?_⟩⟩
  rcases j with _ | _ | j
  · have hp : x = p := by simpa using hp
    subst hp
    refine ⟨[v], by rw [hs]; rfl, hk, fun i z hu => ?_⟩
    cases i with
    | zero =>
      have hu : v = z := by simpa using hu
      subst hu
      simpa [Addr.add, hs] using h
    | succ i => simp at hu
  · have hp : y = p := by simpa using hp
    subst hp
    refine ⟨[u], by rw [hs]; rfl, hk2, fun i z hu => ?_⟩
    cases i with
    | zero =>
      have hu : u = z := by simpa using hu
      subst hu
      simpa [Addr.add, hs] using h2
    | succ i => simp at hu
  · simp at hp
theorem blk_two (w : World) (o p : Obj) : ((w.alloc o).alloc p).heap[w.heap.size]? = some o ∧ ((w.alloc o).alloc p).heap[w.heap.size + 1]? = some p := by
  refine ⟨blk_alloc (blk_new w o) p, ?_⟩
  have := blk_new (w.alloc o) p
  simpa using this
theorem one_read {w : World} {A0 : Option Addr} {c0 : Nat} {l0 : List Int} (hr0 : Kd.C (Kd.int .u8) w A0 l0.length l0) (hc0 : l0.length ≤ c0) :
    Kd.C (Kd.slice 5 (Kd.int .u8)) (w.alloc (Obj.cells #[.slice A0 l0.length c0] 25)) (some ⟨w.heap.size, 0, none⟩) 1 [l0] :=
  C_one rfl ⟨A0, c0, rfl, hc0, Kd.C_below hr0 (below_alloc (Below.refl _ _) _)⟩ (blk_cell (blk_new w _) 0)
theorem two_read {w : World} {A0 : Option Addr} {c0 : Nat} {l0 : List Int} {A1 : Option Addr} {c1 : Nat} {l1 : List (List Int)} (hr0 : Kd.C (Kd.int .u8) w A0 l0.length l0) (hc0 : l0.length ≤ c0) (hr1 : Kd.C (Kd.slice 5 (Kd.int .u8)) w A1 l1.length l1) (hc1 : l1.length ≤ c1) :
    Kd.C (Kd.slice 25 (Kd.slice 5 (Kd.int .u8))) ((w.alloc (Obj.cells #[.slice A0 l0.length c0] 25)).alloc (Obj.cells #[.slice A1 l1.length c1, .slice (some ⟨w.heap.size, 0, none⟩) 1 1] 31)) (some ⟨w.heap.size + 1, 0, none⟩) 2 [l1, [l0]] :=
  C_two rfl ⟨A1, c1, rfl, hc1, Kd.C_below hr1 (below_alloc (below_alloc (Below.refl _ _) _) _)⟩
    ⟨some ⟨w.heap.size, 0, none⟩, 1, rfl, Nat.le_refl _, Kd.C_below (one_read hr0 hc0) (below_alloc (Below.refl _ _) _)⟩
    (blk_cell (blk_two w _ _).2 0) (blk_cell (blk_two w _ _).2 1)
set_option maxHeartbeats 8000000 in
set_option maxRecDepth 100000 in
theorem laws_FnMatrixRow.calls (k : Nat) (A0 : Option Addr) (c0 : Nat) (l0 : List Int) (A1 : Option Addr) (c1 : Nat) (l1 : List (List Int)) (r : Bool) (w : World) (hG : Glob w) (hr0 : Kd.C (Kd.int .u8) w A0 l0.length l0) (hc0 : l0.length ≤ c0) (hr1 : Kd.C (Kd.slice 5 (Kd.int .u8)) w A1 l1.length l1) (hc1 : l1.length ≤ c1) (h : laws_FnMatrixRow.f k l0 l1 = some r) :
    Calls Tryd.prog 5 #[.slice A0 l0.length c0, .slice A1 l1.length c1] w fun e w' => e = .returned (.bool r) ∧ Below w.heap.size w w' := by
  have HR0 := Aside0.mk hr0
  have HC0 := Aside0.mk hc0
  have HR1 := Aside0.mk hr1
  have HC1 := Aside0.mk hc1
  have HG := Aside0.mk hG
  clear hr0 hc0 hr1 hc1 hG
  unfold laws_FnMatrixRow.f at h
  by_cases z0 : (l0.length : Int) > 2147483647
  · rw [if_pos z0] at h
    obtain rfl := Option.some.inj h
    have z1 : decide (2147483647 < (l0.length : Int)) = true := decide_eq_true z0
    have z2 : decide (2147483647 < l0.length) = true := decide_eq_true (by omega)
    clear z0 h
    go_enter Tryd.func5, Tryd.ntmps5
    go_wp2
    go_ret
    exact ⟨rfl, by repeat (first | exact Below.refl _ _ | apply below_alloc | apply pw_below_drewN | apply below_drew1)⟩
  · rw [if_neg z0] at h
    have z1 : decide (2147483647 < (l0.length : Int)) = false := decide_eq_false z0
    have z2 : decide (2147483647 < l0.length) = false := decide_eq_false (by omega)
    clear z0
    obtain ⟨z, hz, h⟩ := Option.bind_eq_some_iff.mp h
    cases z with
    | false =>
      rw [if_pos rfl] at h
      obtain rfl := Option.some.inj h
      go_enter Tryd.func5, Tryd.ntmps5
      go_wp2_with (go_at_call 14; refine (laws_zzFits2.calls k _ _ l1 _ _ HR1.out HC1.out hz).mono ?_; rintro e w' ⟨rfl, ⟨nd, rfl⟩⟩)
      go_ret
      exact ⟨rfl, by repeat (first | exact Below.refl _ _ | apply below_alloc | apply pw_below_drewN | apply below_drew1)⟩
    | true =>
      rw [if_neg (by decide)] at h
      obtain ⟨m, hm, h⟩ := Option.bind_eq_some_iff.mp h
      have HZ := Aside0.mk hz
      have HM := Aside0.mk hm
      have H := Aside0.mk h
      clear hz hm h
      go_enter Tryd.func5, Tryd.ntmps5
      go_wp2_with (go_at_call 14; refine (laws_zzFits2.calls k _ _ l1 _ _ HR1.out HC1.out HZ.out).mono ?_; rintro e w' ⟨rfl, ⟨nd, rfl⟩⟩)
      have HB := Aside0.mk (below_alloc (below_alloc (pw_below_drewN (Below.refl w.heap.size w) nd) (Obj.cells #[.slice A0 l0.length c0] 25)) (Obj.cells #[.slice A1 l1.length c1, .slice (some ⟨w.heap.size, 0, none⟩) 1 1] 31))
      refine (laws_moderate.calls k _ 2 [l1, [l0]] m _ (two_read (w := w.drewN nd) (Kd.C_below HR0.out (pw_below_drewN (Below.refl _ _) nd)) HC0.out (Kd.C_below HR1.out (pw_below_drewN (Below.refl _ _) nd)) HC1.out) (Nat.le_refl _) HM.out).mono ?_
      rintro e w' ⟨rfl, ⟨nd2, rfl⟩⟩
      have HB2 := Aside0.mk (pw_below_drewN HB.out nd2)
      clear HB
      dsimp only
      cases m with
      | false =>
        have H' := H.out
        rw [if_pos rfl] at H'
        obtain rfl := Option.some.inj H'
        clear H'
        go_wp2
        go_ret
        exact ⟨rfl, HB2.out⟩
      | true =>
        have H' := H.out
        rw [if_neg (by decide)] at H'
        obtain ⟨q, hq, H'⟩ := Option.bind_eq_some_iff.mp H'
        obtain ⟨rc, hrc, H'⟩ := Option.bind_eq_some_iff.mp H'
        obtain ⟨got, ok⟩ := q
        have HQ := Aside0.mk hq
        have HRC := Aside0.mk hrc
        clear H
        have H := Aside0.mk H'
        clear hq hrc H'
        go_wp2_with (fail)
        refine (impl_RowTimes.calls k A0 c0 l0 A1 c1 l1 got ok _ (HG.out.below HB2.out) (Kd.C_below HR0.out HB2.out) HC0.out (Kd.C_below HR1.out HB2.out) HC1.out HQ.out).mono ?_
        rintro e w3 ⟨v, rfl, hR, hb⟩
        have HB3 := Aside0.mk (HB2.out.trans (hb.mono HB2.out.size))
        have HV := Aside0.mk hR
        clear HB2 hb hR
        obtain ⟨Ag, cg, rfl⟩ := Kd.R_slice HV.out
        dsimp only
        cases rc with
        | false =>
          have H' := H.out
          rw [if_pos (Or.inl rfl)] at H'
          obtain rfl := Option.some.inj H'
          clear H'
          go_wp2_with (go_at_call 17; refine (spec_Rectangular.calls k _ _ l1 _ _ (Kd.C_below HR1.out HB3.out) HC1.out HRC.out).mono ?_; rintro e w' ⟨rfl, ⟨nd, rfl⟩⟩)
          go_ret
          exact ⟨rfl, pw_below_drewN HB3.out _⟩
        | true =>
          by_cases y0 : (l0.length : Int) = (l1.length : Int)
          · have y1 : ((l0.length : Int) != (l1.length : Int)) = false := bne_eq_false_iff_eq.mpr y0
            have H' := H.out
            rw [if_neg (by simp [y0])] at H'
            clear H
            have H := Aside0.mk H'
            have Y := Aside0.mk y0
            clear H' y0
            cases ok with
            | false =>
              have H' := H.out
              rw [if_pos rfl] at H'
              obtain rfl := Option.some.inj H'
              clear H'
              go_wp2_with (go_at_call 17; refine (spec_Rectangular.calls k _ _ l1 _ _ (Kd.C_below HR1.out HB3.out) HC1.out HRC.out).mono ?_; rintro e w' ⟨rfl, ⟨nd, rfl⟩⟩)
              go_ret
              exact ⟨rfl, pw_below_drewN HB3.out _⟩
            | true =>
              have H' := H.out
              rw [if_neg (by decide)] at H'
              obtain ⟨t, ht, H'⟩ := Option.bind_eq_some_iff.mp H'
              by_cases hp : 0 < t.length
              case neg => rw [if_neg hp] at H'; cases H'
              rw [if_pos hp] at H'
              clear H
              have H := Aside0.mk H'
              have HT := Aside0.mk ht
              clear H' ht
              go_wp2_with (go_at_call 17; refine (spec_Rectangular.calls k _ _ l1 _ _ (Kd.C_below HR1.out HB3.out) HC1.out HRC.out).mono ?_; rintro e w' ⟨rfl, ⟨nd, rfl⟩⟩)
              have HB4 := Aside0.mk (below_alloc (pw_below_drewN HB3.out nd) (Obj.cells #[.slice A0 l0.length c0] 25))
              have HV4 := Aside0.mk (Kd.C_below (Kd.R_reads' HV.out).2.2 (below_alloc (pw_below_drewN (Below.refl w3.heap.size w3) nd) (Obj.cells #[.slice A0 l0.length c0] 25)))
              have HVC := Aside0.mk (Kd.R_reads' HV.out).2.1
              refine (spec_Times.calls k _ 1 [l0] A1 c1 l1 t _ (one_read (w := w3.drewN nd) (Kd.C_below HR0.out (pw_below_drewN HB3.out nd)) HC0.out) (Nat.le_refl _) (Kd.C_below HR1.out HB4.out) HC1.out HT.out).mono ?_
              rintro e w5 ⟨v5, rfl, hS, hb⟩
              have HB5 := Aside0.mk (HB4.out.trans (hb.mono HB4.out.size))
              have HV5 := Aside0.mk (Kd.C_below HV4.out hb)
              obtain ⟨At, ct, rfl⟩ := Kd.S_slice hS
              obtain ⟨_, hct, hS2⟩ := Kd.S_reads' hS
              obtain ⟨ad, Ax, cx, rfl, hx, hlx, hix⟩ := at_L1 hS2 0 (by omega) (by omega)
              have hx' : w5.cell? ad = some (.slice Ax (rd_L1 t 0).length cx) := by simpa [Addr.add] using hx
              have HIX := Aside0.mk hix
              have HLX := Aside0.mk hlx
              clear HV HV4 HB3 HB4 hS hS2 hx hix hlx hb HT HQ HM HZ HRC
              dsimp only
              go_wp2_with (go_at_call 18; refine (laws_equalBytes.calls k Ag cg got Ax cx (rd_L1 t 0) r _ HV5.out HVC.out HIX.out HLX.out H.out).mono ?_; rintro e w' ⟨rfl, ⟨nd2, rfl⟩⟩)
              go_ret
              exact ⟨rfl, pw_below_drewN HB5.out _⟩
          · have y1 : ((l0.length : Int) != (l1.length : Int)) = true := bne_iff_ne.mpr y0
            have H' := H.out
            rw [if_pos (Or.inr y0)] at H'
            obtain rfl := Option.some.inj H'
            clear H' y0
            go_wp2_with (go_at_call 17; refine (spec_Rectangular.calls k _ _ l1 _ _ (Kd.C_below HR1.out HB3.out) HC1.out HRC.out).mono ?_; rintro e w' ⟨rfl, ⟨nd, rfl⟩⟩)
            go_ret
            exact ⟨rfl, pw_below_drewN HB3.out _⟩
end Go.Proofs.YtladpdeneiaaeaaDoor.PRow
