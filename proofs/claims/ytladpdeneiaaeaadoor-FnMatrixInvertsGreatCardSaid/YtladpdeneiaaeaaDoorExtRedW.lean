import Derived.Test.YtladpdeneiaaeaaDoorExtGauS
import Derived.Test.YtladpdeneiaaeaaDoorFieldSpecI
import Derived.Test.YtladpdeneiaaeaaDoorPInvx2
import Derived.Deep.RegionLaw
import Derived.Deep.DeepCutAuto
import Derived.Deep.CutBlock
/-! spec.Reduced, walked. Written by gen-reduced.py. -/
namespace Go.Proofs.YtladpdeneiaaeaaDoor.Inv
open Go.RowKit Go.Proofs.YtladpdeneiaaeaaDoorW.PrintWords Go.Proofs.YtladpdeneiaaeaaDoorW.PrintLast Go.Proofs.YtladpdeneiaaeaaDoorW.PrintMore
set_option linter.unusedVariables false
theorem red_first {W : Mat} {c d i : Nat} (h : el W i c ≠ 0) : find W c (d + 1) i = i := by rw [find, if_neg h]
theorem red_next {W : Mat} {c d i : Nat} (h : el W i c = 0) : find W c (d + 1) i = find W c d (i + 1) := by rw [find, if_pos h]
theorem swp2_comm (W : Mat) (r p : Nat) (hr : r < W.length) (hp : p < W.length) : swp2 W r p = swp2 W p r := by
  refine ext_getD [] (by rw [swp2_len, swp2_len]) fun j hj => ?_
  rw [swp2_at W r p j hr hp, swp2_at W p r j hp hr]
  by_cases h1 : j = r
  · by_cases h2 : j = p
    · rw [if_pos h1, if_pos h2, ← h1, ← h2]
    · rw [if_pos h1, if_neg h2, if_pos h1]
  · by_cases h2 : j = p
    · rw [if_neg h1, if_pos h2, if_pos h2]
    · rw [if_neg h1, if_neg h2, if_neg h2, if_neg h1]
set_option maxHeartbeats 16000000 in
set_option maxRecDepth 100000 in
/-- All of spec.Reduced that follows the copy: its loop over the columns. -/
theorem reduced.calls (w0 : World) (A0 : Option Addr) (c0 n L : Nat) (xs : Mat) (hr0 : Kd.C kr w0 A0 xs.length xs) (hc0 : xs.length ≤ c0) (hS : Sh n L xs) (hn : 0 < n) (hnL : n ≤ L) (hL : L < 1000000) (hn2 : n < 1000000)
    (ku : Nat) (idx : List Int) (hu : PInv.spec_upTo.f ku (n : Int) = some idx) (kc : Nat) (hch : PInv.spec_Chosen.f kc xs idx = some xs) :
    Calls Tryd.prog 40 #[.slice A0 xs.length c0] w0 fun e w' => ∃ v, e = .returned (.tuple #[v, .int .i64 ((red MM XX II n L 0 0 xs).2 : Int)]) ∧ Kd.S kr 25 w' w0.heap.size (fun _ => True) v (red MM XX II n L 0 0 xs).1 ∧ Below w0.heap.size w0 w' := by
  have hcol : PInv.spec_Columns.f xs = some (L : Int) := by
    unfold PInv.spec_Columns.f
    have h1 := hS.1
    have h2 := (hS.2 0 hn).1
    rw [if_neg (by omega), if_pos (by omega)]
    exact congrArg (fun m : Nat => some (m : Int)) h2
  have HR0 := Aside0.mk hr0
  have HC0 := Aside0.mk hc0
  have HS := Aside0.mk hS
  have HN := Aside0.mk hn
  have HNL := Aside0.mk hnL
  have HL := Aside0.mk hL
  have HN2 := Aside0.mk hn2
  have HU := Aside0.mk hu
  have HCH := Aside0.mk hch
  have HCOL := Aside0.mk hcol
  have hxl : xs.length = n := hS.1
  clear hr0 hc0 hS hn hnL hL hn2 hu hch hcol
  have HXL := Aside0.mk hxl
  have HCC : Aside0 (∀ W, Below w0.heap.size w0 W → Calls Tryd.prog 24 #[.slice A0 n c0] W fun e w' => e = .returned (.int .i64 (L : Int)) ∧ Drawn0 W w') := ⟨fun W hb => by
    have h := PInv.spec_Columns.calls A0 c0 xs (L : Int) W (Kd.C_below HR0.out hb) HC0.out HCOL.out
    rw [HXL.out] at h
    exact h⟩
  have HCD : Aside0 (∀ (W : World) (AI : Option Addr) (cI : Nat), Below w0.heap.size w0 W → Kd.C (Kd.int .i64) W AI idx.length idx → idx.length ≤ cI → Calls Tryd.prog 56 #[.slice A0 n c0, .slice AI idx.length cI] W fun e w' => ∃ v : Value, e = .returned v ∧ Kd.S kr 25 w' W.heap.size (fun _ => True) v xs ∧ Below W.heap.size W w') := ⟨fun W AI cI hb h1 h2 => by
    have h := PInv.spec_Chosen.calls kc A0 c0 xs AI cI idx xs W (Kd.C_below HR0.out hb) HC0.out h1 h2 HCH.out
    rw [HXL.out] at h
    exact h⟩
  simp only [hxl] at HR0 HC0 ⊢
  clear hxl
  go_enter Tryd.func40, Tryd.ntmps40
  go_wp2_with (fail)
  refine (PInv.spec_upTo.calls ku (n : Int) idx _ HU.out).mono ?_
  rintro ex w1 ⟨v1, rfl, hI, hb1⟩
  obtain ⟨AI, cI, rfl⟩ := Kd.R_slice hI
  obtain ⟨i1, i2, i3⟩ := Kd.R_reads' hI
  have HI1 := Aside0.mk i2
  have HI2 := Aside0.mk i3
  have HB1 := Aside0.mk hb1
  clear hI i1 i2 i3 hb1
  dsimp only
  go_wp2_with (fail)
  refine (HCD.out _ AI cI (by first | exact HB1.out | exact pw_below_drewN HB1.out _) (by first | exact HI2.out | exact Kd.C_drewN HI2.out _) HI1.out).mono ?_
  rintro ex w2 ⟨v2, rfl, hO, hb2⟩
  obtain ⟨g, cap, rfl, hgb, hgl, _⟩ := Kd.S_form hO (by rw [HXL.out]; exact HN.out)
  have hO2 := Kd.S_lower hO HB1.out.size
  rw [HXL.out] at hO2
  have HA : Aside0 (At w2 w0.heap.size g n cap xs) := ⟨hO2⟩
  have HB := Aside0.mk (HB1.out.trans (hb2.mono HB1.out.size))
  simp only [HXL.out]
  clear hO hO2 hb2 hgb hgl HI1 HI2 HB1 HU HCH
  try dsimp only
  go_wp2_with (fail)
  go_loopg [5, 6] L (fun kq v5 v6 w' => ∃ (k c : Nat) (U : Mat), v5 = .int .i64 (k : Int) ∧ v6 = .int .i64 (c : Int) ∧ Aside0 (c + kq = L) ∧ Aside0 (k ≤ n) ∧ Aside0 (red MM XX II n kq c k U = red MM XX II n L 0 0 xs) ∧ Aside0 (Sh n L U) ∧ Aside0 (At w' w0.heap.size g n cap U) ∧ Aside0 (Below w0.heap.size w0 w'))
  case atStart => exact ⟨0, 0, xs, rfl, rfl, ⟨by omega⟩, ⟨by omega⟩, ⟨rfl⟩, HS, HA, HB⟩
  case round =>
    clear HS HA HB
    obtain ⟨k, c, U, rfl, rfl, HI, HK, HEQ, HS, HA, HB⟩ := hrel
    cases gk with
    | zero =>
      have ec : c = L := by have := HI.out; omega
      have e1 : decide ((c : Int) < (L : Int)) = false := decide_eq_false (by omega)
      have e2 : decide (c < L) = false := decide_eq_false (by omega)
      clear ec
      go_wp2_with (fail)
      refine (HCC.out _ HB.out).mono ?_
      rintro ex w3 ⟨rfl, ⟨nd, rfl⟩⟩
      have HA2 := Aside0.mk (HA.out.drewN nd)
      have HB2 := Aside0.mk (pw_below_drewN HB.out nd)
      clear HA HB
      dsimp only
      go_wp2_with (fail)
      go_ret2
      have hred : red MM XX II n L 0 0 xs = (U, k) := by rw [← HEQ.out, red]
      rw [hred]
      exact ⟨_, rfl, HA2.out, HB2.out⟩
    | succ k1 =>
      have hcL : c < L := by have := HI.out; omega
      have e1 : decide ((c : Int) < (L : Int)) = true := decide_eq_true (by omega)
      have e2 : decide (c < L) = true := decide_eq_true hcL
      have e3 : 0 ≤ (c : Int) := by omega
      have e4 : (c : Int) < (L : Int) := by omega
      have HCL := Aside0.mk hcL
      clear hcL
      by_cases hk : k < n
      case neg =>
        have f1 : decide ((k : Int) < (n : Int)) = false := decide_eq_false (by omega)
        have f2 : decide (k < n) = false := decide_eq_false hk
        have HKN := Aside0.mk hk
        clear hk
        go_wp2_with (fail)
        refine (HCC.out _ HB.out).mono ?_
        rintro ex w3 ⟨rfl, ⟨nd, rfl⟩⟩
        have HA2 := Aside0.mk (HA.out.drewN nd)
        have HB2 := Aside0.mk (pw_below_drewN HB.out nd)
        clear HA HB
        dsimp only
        go_wp2_with (fail)
        go_ret2
        have hred : red MM XX II n L 0 0 xs = (U, k) := by rw [← HEQ.out, red, if_neg HKN.out]
        rw [hred]
        exact ⟨_, rfl, HA2.out, HB2.out⟩
      have f1 : decide ((k : Int) < (n : Int)) = true := decide_eq_true (by omega)
      have f2 : decide (k < n) = true := decide_eq_true hk
      have f3 : 0 ≤ (k : Int) := by omega
      have f4 : (k : Int) < (n : Int) := by omega
      have HKN := Aside0.mk hk
      clear hk
      go_wp2_with (fail)
      refine (HCC.out _ HB.out).mono ?_
      rintro ex w3 ⟨rfl, ⟨nd, rfl⟩⟩
      have HA2 := Aside0.mk (HA.out.drewN nd)
      have HB2 := Aside0.mk (pw_below_drewN HB.out nd)
      clear HA HB
      dsimp only
      go_upto_block 2 with (fail)
      go_cut [7] (fun v7 wc => v7 = .int .i64 ((find U c (n - k) k : Nat) : Int) ∧ Aside0 (At wc w0.heap.size g n cap U) ∧ Aside0 (Below w0.heap.size w0 wc))
      case first =>
        go_wp2_with (fail)
        go_loopg [7] (n - k) (fun kq v7 w' => ∃ (i : Nat), v7 = .int .i64 (i : Int) ∧ Aside0 (i + kq = n) ∧ Aside0 (k ≤ i) ∧ Aside0 (find U c kq i = find U c (n - k) k) ∧ Aside0 (At w' w0.heap.size g n cap U) ∧ Aside0 (Below w0.heap.size w0 w'))
        case atStart => exact ⟨k, rfl, ⟨by have := HKN.out; omega⟩, ⟨Nat.le_refl _⟩, ⟨rfl⟩, HA2, HB2⟩
        case round =>
          clear HA2 HB2
          obtain ⟨i, rfl, HI2, HRI, HF, HA, HB⟩ := hrel
          cases gk with
          | zero =>
            have ei : i = n := by have := HI2.out; omega
            have b1 : decide ((i : Int) < (n : Int)) = false := decide_eq_false (by omega)
            have b2 : decide (i < n) = false := decide_eq_false (by omega)
            clear ei
            go_wp2_with (fail)
            go_meet
            case rel => exact ⟨by rw [← HF.out, find], HA, HB⟩
          | succ k2 =>
            have hi : i < n := by have := HI2.out; omega
            have b1 : decide ((i : Int) < (n : Int)) = true := decide_eq_true (by omega)
            have b2 : decide (i < n) = true := decide_eq_true hi
            have b3 : 0 ≤ (i : Int) := by omega
            have b4 : (i : Int) < (n : Int) := by omega
            have hli := (HS.out.2 i hi).1
            obtain ⟨gi, ci, hxi, y1, y2, hci, y3⟩ := HA.out.row hi (by have := HNL.out; have := HN.out; omega)
            rw [hli] at hxi hci
            obtain ⟨hc2, y4⟩ := hci c HCL.out
            obtain ⟨y, hy⟩ : ∃ y, y = el U i c := ⟨_, rfl⟩
            rw [show (U.getD i []).getD c 0 = y from hy.symm] at hc2
            have HY := Aside0.mk hy
            have HII := Aside0.mk hi
            clear hci y1 y2 y3 y4 hy hli hi
            by_cases hy0 : y = 0
            · have b5 : (y == 0) = true := beq_iff_eq.mpr hy0
              have HY0 := Aside0.mk hy0
              clear hy0
              go_wp2_with (fail)
              go_roundg k2
              case measure => omega
              case rel => exact ⟨i + 1, by rw [nxt (by have := HII.out; have := HN2.out; omega)], ⟨by have := HI2.out; omega⟩, ⟨by have := HRI.out; omega⟩, ⟨by rw [← HF.out, red_next (by rw [← HY.out]; exact HY0.out)]⟩, HA, HB⟩
            · have b5 : (y == 0) = false := beq_eq_false_iff_ne.mpr hy0
              have HY0 := Aside0.mk hy0
              clear hy0
              go_wp2_with (fail)
              go_meet
              case rel => exact ⟨by rw [← HF.out, red_first (by rw [← HY.out]; exact HY0.out)], HA, HB⟩
      case rest =>
        clear HA2 HB2
        obtain ⟨rfl, HA, HB⟩ := hcut
        have hle := find_le U c (n - k) k
        obtain ⟨q, hq⟩ : ∃ q, q = find U c (n - k) k := ⟨_, rfl⟩
        rw [← hq] at hle ⊢
        have HQ := Aside0.mk hq
        have HLE := Aside0.mk hle
        clear hq hle
        by_cases hqn : q = n
        · have b1 : ((q : Int) == (n : Int)) = true := beq_iff_eq.mpr (by omega)
          have HQN := Aside0.mk hqn
          clear hqn
          go_wp2_with (fail)
          go_roundg k1
          case measure => omega
          case rel => exact ⟨k, c + 1, U, rfl, by rw [nxt (by have := HCL.out; have := HL.out; omega)], ⟨by have := HI.out; omega⟩, HK, ⟨by rw [← HEQ.out, red, if_pos HKN.out, sStage_none (by rw [← HQ.out]; exact HQN.out)]⟩, HS, HA, HB⟩
        have b1 : ((q : Int) == (n : Int)) = false := beq_eq_false_iff_ne.mpr (by omega)
        have HQN := Aside0.mk hqn
        have HQL : Aside0 (q < n) := ⟨by have := HLE.out; have := HKN.out; omega⟩
        have HIT : Aside0 (el U q c ≠ 0) := ⟨by rw [HQ.out]; exact find_hit U c (n - k) k (by rw [← HQ.out]; have := HQL.out; have := HKN.out; omega)⟩
        clear hqn
        go_upto_region 9 with (fail)
        go_cut [] (fun wc => Aside0 (At wc w0.heap.size g n cap (swp2 U k q)) ∧ Aside0 (Below w0.heap.size w0 wc))
        case first =>
          obtain ⟨u, v, x1, x2, ⟨A1, m1, rfl⟩, ⟨A2, m2, rfl⟩, g1_, g2_, ⟨t, x3⟩, g3_, h4⟩ := HA.out.swap HQL.out HKN.out
          rw [swp2_comm U q k (by rw [HS.out.1]; exact HQL.out) (by rw [HS.out.1]; exact HKN.out)] at h4
          generalize (U.getD q []).length = L1 at x1 x3 g3_ h4
          generalize (U.getD k []).length = L2 at x2 h4
          have H4 := Aside0.mk h4
          have HGB := Aside0.mk HA.out.head
          have c1 : decide ((q : Int) < (n : Int)) = true := decide_eq_true (by have := HQL.out; omega)
          have c5 : (q : Int) < (n : Int) := by have := HQL.out; omega
          have c7 : 0 ≤ (q : Int) := by omega
          clear h4
          go_wp2
          go_region
          all_goals go_wp2
          all_goals go_meet
          all_goals exact ⟨⟨by repeat (first | exact H4.out | apply At.drew | apply At.drewN)⟩, ⟨by repeat (first | exact HB.out | apply Below.drew | (refine Below.setCell ?_ HGB.out _))⟩⟩
        case rest =>
          clear HA HB
          obtain ⟨HA, HB⟩ := hcut
          have HS1 : Aside0 (Sh n L (swp2 U k q)) := ⟨sh_swp HS.out HKN.out HQL.out⟩
          obtain ⟨W1, hW1⟩ : ∃ W1, W1 = swp2 U k q := ⟨_, rfl⟩
          simp only [← hW1] at HA HS1
          have HW1 := Aside0.mk hW1
          clear hW1
          obtain ⟨gr, cr, hxr, y1, y2, hcr, y3⟩ := HA.out.row HKN.out (by have := (HS1.out.2 k HKN.out).1; have := HCL.out; omega)
          rw [(HS1.out.2 k HKN.out).1] at hxr hcr
          obtain ⟨hc1, y4⟩ := hcr c HCL.out
          obtain ⟨x1, hx⟩ : ∃ x, x = (W1.getD k []).getD c 0 := ⟨_, rfl⟩
          rw [← hx] at hc1
          have HX := Aside0.mk hx
          have HX0 : Aside0 (x1 ≠ 0) := ⟨by
            have h := HIT.out
            unfold el at h
            rw [hx, HW1.out, swp2_at U k q k (by rw [HS.out.1]; exact HKN.out) (by rw [HS.out.1]; exact HQL.out), if_pos rfl]
            exact h⟩
          have HBX : Aside0 (Byte x1) := ⟨by rw [hx]; exact (HS1.out.2 k HKN.out).2 c HCL.out⟩
          clear hcr y1 y2 y3 y4 hx
          go_wp2_with (fail)
          refine (sinv.calls x1 _ HBX.out HX0.out).mono ?_
          rintro ex w4 ⟨rfl, ⟨nd2, rfl⟩⟩
          have HA2 := Aside0.mk (HA.out.drewN nd2)
          have HB2 := Aside0.mk (pw_below_drewN HB.out nd2)
          clear HA HB
          dsimp only
          obtain ⟨s, hs⟩ : ∃ s, s = II x1 := ⟨_, rfl⟩
          rw [← hs]
          have HSS := Aside0.mk hs
          have HBS : Aside0 (Byte s) := ⟨by rw [hs]; unfold II; exact ⟨Int.natCast_nonneg _, by have := FldR.div_lt 1 x1.toNat; omega⟩⟩
          obtain ⟨p, hp⟩ : ∃ p, p = scl MM s (W1.getD k []) := ⟨_, rfl⟩
          have HP := Aside0.mk hp
          have HPR : Aside0 (Rw L p) := ⟨by rw [hp]; exact scl_rw fld s (HS1.out.2 k HKN.out)⟩
          clear hs hp b1
          go_upto_block 4 with (fail)
          clear hxr hc1
          go_cut [9] (fun _ wc => Aside0 (At wc w0.heap.size g n cap (W1.set k p)) ∧ Aside0 (Below w0.heap.size w0 wc))
          case first =>
            go_wp2_with (fail)
            go_loopg [78] L (fun kq vc w' => ∃ (j : Nat), vc = .int .i64 (j : Int) ∧ Aside0 (j + kq = L) ∧ Aside0 (At w' w0.heap.size g n cap (W1.set k (mix p (W1.getD k []) j))) ∧ Aside0 (Below w0.heap.size w0 w'))
            case atStart => exact ⟨0, rfl, ⟨by omega⟩, ⟨by rw [mix_zero, set_getD _ _ _ (by rw [HS1.out.1]; exact HKN.out)]; exact HA2.out⟩, HB2⟩
            case round =>
              clear HA2 HB2
              obtain ⟨j, rfl, HI2, HA, HB⟩ := hrel
              cases gk with
              | zero =>
                have ec : j = L := by have := HI2.out; omega
                have b1 : decide ((j : Int) < (L : Int)) = false := decide_eq_false (by omega)
                have b2 : decide (j < L) = false := decide_eq_false (by omega)
                have HEC := Aside0.mk ec
                clear ec
                go_wp2_with (fail)
                go_meet
                case rel =>
                  refine ⟨?_, HB⟩
                  have h := HA.out
                  rw [mix_full (by rw [HPR.out.1, HEC.out]) (by rw [(HS1.out.2 k HKN.out).1, HEC.out])] at h
                  exact ⟨h⟩
              | succ k2 =>
                have hc : j < L := by have := HI2.out; omega
                have b1 : decide ((j : Int) < (L : Int)) = true := decide_eq_true (by omega)
                have b2 : decide (j < L) = true := decide_eq_true hc
                have b3 : 0 ≤ (j : Int) := by omega
                have b4 : (j : Int) < (L : Int) := by omega
                have hrow := HS1.out.2 k HKN.out
                have hml : (mix p (W1.getD k []) j).length = L := by rw [mix_len (by rw [HPR.out.1, hrow.1]), hrow.1]
                have hgr : (W1.set k (mix p (W1.getD k []) j)).getD k [] = mix p (W1.getD k []) j := by rw [getD_set _ _ _ _ _ (by rw [HS1.out.1]; exact HKN.out), if_pos rfl]
                obtain ⟨gr, cr, hxr, y1, y2, hcr, y3⟩ := HA.out.row HKN.out (by rw [hgr, hml]; omega)
                rw [hgr, hml] at hxr hcr y3
                obtain ⟨hc1, hf1⟩ := hcr j hc
                rw [mix_at (by rw [HPR.out.1, hrow.1]) (Nat.le_refl j) (by rw [hrow.1]; exact hc)] at hc1
                have hst := fun m => y3 m j (p.getD j 0) hc
                simp only [mix_set (show p.length = (W1.getD k []).length by rw [HPR.out.1, hrow.1]) (show j < (W1.getD k []).length by rw [hrow.1]; exact hc), List.set_set] at hst
                have hby := hrow.2 j hc
                have htc : p.getD j 0 = MM ((W1.getD k []).getD j 0) s := by rw [HP.out, scl_at s hrow hc]
                simp only [htc] at hst
                obtain ⟨z, hz⟩ : ∃ z, z = (W1.getD k []).getD j 0 := ⟨_, rfl⟩
                simp only [← hz] at hc1 hst hby
                have HST := Aside0.mk hst
                have HBZ := Aside0.mk hby
                have HGB := Aside0.mk y1
                have HKP : Aside0 (∀ m u, ((wr.drewN m).setCell ⟨gr, j, none⟩ u).cell? ⟨g, k, none⟩ = some (.slice (some ⟨gr, 0, none⟩) L cr)) := ⟨fun m u => cell_keep hxr HGB.out.2⟩
                clear hst hby y1 y2 y3 hcr hml hgr htc hz hc hrow
                go_wp2_with (fail)
                go_region_law (first
                  | (go_simp; go_at_call 30
                     refine (smul.calls z s _ HBZ.out HBS.out).mono ?_
                     rintro ex w2 ⟨rfl, ⟨nd, rfl⟩⟩))
                all_goals
                  go_wp2_with (fail)
                  go_roundg k2
                  case measure => omega
                  case rel => exact ⟨j + 1, by rw [nxt (by have := HI2.out; have := HL.out; omega)], ⟨by have := HI2.out; omega⟩, ⟨HST.out _⟩, ⟨Below.setCell (by repeat (first | exact HB.out | apply pw_below_drewN | apply below_drew1)) HGB.out.1 _⟩⟩
          case rest =>
            clear HA2 HB2
            obtain ⟨HA, HB⟩ := hcut
            have HS2 : Aside0 (Sh n L (W1.set k p)) := ⟨sh_set HS1.out HKN.out HPR.out⟩
            have HW1L : Aside0 (k < W1.length) := ⟨by rw [HS1.out.1]; exact HKN.out⟩
            have HEQ2 : Aside0 (red MM XX II n k1 (c + 1) (k + 1) (clrx MM XX p c k n 0 (W1.set k p)) = red MM XX II n L 0 0 xs) := ⟨by
              have hx : el W1 k c = x1 := HX.out.symm
              have h : sStage MM XX II n c k U = some (clrx MM XX p c k n 0 (W1.set k p)) := by
                unfold sStage
                rw [← HQ.out, if_neg HQN.out, ← HW1.out, hx, ← HSS.out, ← HP.out]
              rw [← HEQ.out, red, if_pos HKN.out, h]⟩
            clear HS HEQ HP HW1 HX HX0 HQ HLE HIT HSS HBS HBX
            go_wp2_with (fail)
            go_loopg [99] n (fun kq vc w' => ∃ (i : Nat) (V : Mat), vc = .int .i64 (i : Int) ∧ Aside0 (i + kq = n) ∧ Aside0 (clrx MM XX p c k kq i V = clrx MM XX p c k n 0 (W1.set k p)) ∧ Aside0 (V.getD k [] = p) ∧ Aside0 (Sh n L V) ∧ Aside0 (At w' w0.heap.size g n cap V) ∧ Aside0 (Below w0.heap.size w0 w'))
            case atStart => exact ⟨0, W1.set k p, rfl, ⟨by omega⟩, ⟨rfl⟩, ⟨by rw [getD_set _ _ _ _ _ HW1L.out, if_pos rfl]⟩, HS2, HA, HB⟩
            case round =>
              clear HA HB HS2 HS1
              obtain ⟨i, V, rfl, HI2, HCX, HVR, HSV, HA, HB⟩ := hrel
              cases gk with
              | zero =>
                have ei : i = n := by have := HI2.out; omega
                have b1 : decide ((i : Int) < (n : Int)) = false := decide_eq_false (by omega)
                have b2 : decide (i < n) = false := decide_eq_false (by omega)
                clear ei
                go_wp2_with (fail)
                go_roundg k1
                case measure => omega
                case rel => exact ⟨k + 1, c + 1, V, by rw [nxt (by have := HKN.out; have := HN2.out; omega)], by rw [nxt (by have := HCL.out; have := HL.out; omega)], ⟨by have := HI.out; omega⟩, ⟨HKN.out⟩, ⟨by have h := HCX.out; rw [clrx] at h; rw [h]; exact HEQ2.out⟩, HSV, HA, HB⟩
              | succ k2 =>
                have hi : i < n := by have := HI2.out; omega
                have b1 : decide ((i : Int) < (n : Int)) = true := decide_eq_true (by omega)
                have b2 : decide (i < n) = true := decide_eq_true hi
                have b3 : 0 ≤ (i : Int) := by omega
                have b4 : (i : Int) < (n : Int) := by omega
                have hli := (HSV.out.2 i hi).1
                obtain ⟨gi, ci, hxi, y1, y2, hci, y3⟩ := HA.out.row hi (by have := HNL.out; have := HN.out; omega)
                rw [hli] at hxi hci
                obtain ⟨hc2, y4⟩ := hci c HCL.out
                obtain ⟨y, hy⟩ : ∃ y, y = (V.getD i []).getD c 0 := ⟨_, rfl⟩
                rw [← hy] at hc2
                have HY := Aside0.mk hy
                have HBY : Aside0 (Byte y) := ⟨by rw [hy]; exact (HSV.out.2 i hi).2 c HCL.out⟩
                have HII := Aside0.mk hi
                clear hci y1 y2 y3 y4 hy hli hi
                go_upto_block 7 with (fail)
                go_cut [10, 11, 12] (fun _ _ _ wc => Aside0 (At wc w0.heap.size g n cap (if i = k then V else V.set i (clr MM XX p c (V.getD i [])))) ∧ Aside0 (Below w0.heap.size w0 wc))
                case first =>
                  by_cases hik : i = k
                  · have b5 : ((i : Int) == (k : Int)) = true := beq_iff_eq.mpr (by omega)
                    have b6 : ((i : Int) != (k : Int)) = false := bne_eq_false_iff_eq.mpr (by omega)
                    have HIK := Aside0.mk hik
                    clear hik
                    go_wp2_with (fail)
                    go_meet
                    case rel => exact ⟨by rw [if_pos HIK.out]; exact HA, HB⟩
                  have b5 : ((i : Int) == (k : Int)) = false := beq_eq_false_iff_ne.mpr (by omega)
                  have b6 : ((i : Int) != (k : Int)) = true := bne_iff_ne.mpr (by omega)
                  have HIK := Aside0.mk hik
                  clear hik
                  by_cases hy0 : y = 0
                  · have b7 : (y == 0) = true := beq_iff_eq.mpr hy0
                    have b8 : (y != 0) = false := bne_eq_false_iff_eq.mpr hy0
                    have HY0 := Aside0.mk hy0
                    clear hy0
                    go_wp2_with (fail)
                    go_meet
                    case rel =>
                      have e : V.set i (clr MM XX p c (V.getD i [])) = V := by
                        unfold clr
                        rw [if_pos (by rw [← HY.out]; exact HY0.out), set_getD _ _ _ (by rw [HSV.out.1]; exact HII.out)]
                      exact ⟨by rw [if_neg HIK.out, e]; exact HA, HB⟩
                  have b7 : (y == 0) = false := beq_eq_false_iff_ne.mpr hy0
                  have b8 : (y != 0) = true := bne_iff_ne.mpr hy0
                  have HY0 := Aside0.mk hy0
                  clear hy0
                  go_wp2_with (fail)
                  (try simp only [b6, b8])
                  clear b5 b6 b7 b8 hxi hc2
                  obtain ⟨tg, htg⟩ : ∃ tg, tg = clr MM XX p c (V.getD i []) := ⟨_, rfl⟩
                  have HTG := Aside0.mk htg
                  have HTR := Aside0.mk (show Rw L tg by rw [htg]; exact clr_rw fld HPR.out (HSV.out.2 i HII.out))
                  clear htg
                  go_loopg [121] L (fun kq vc w' => ∃ (j : Nat), vc = .int .i64 (j : Int) ∧ Aside0 (j + kq = L) ∧ Aside0 (At w' w0.heap.size g n cap (V.set i (mix tg (V.getD i []) j))) ∧ Aside0 (Below w0.heap.size w0 w'))
                  case atStart => exact ⟨0, rfl, ⟨by omega⟩, ⟨by rw [mix_zero, set_getD _ _ _ (by rw [HSV.out.1]; exact HII.out)]; exact HA.out⟩, HB⟩
                  case round =>
                    clear HA HB b1 b2
                    obtain ⟨j, rfl, HI3, HA, HB⟩ := hrel
                    cases gk with
                    | zero =>
                      have ec : j = L := by have := HI3.out; omega
                      have b1 : decide ((j : Int) < (L : Int)) = false := decide_eq_false (by omega)
                      have b2 : decide (j < L) = false := decide_eq_false (by omega)
                      have HEC := Aside0.mk ec
                      clear ec
                      go_wp2_with (fail)
                      go_meet
                      case rel =>
                        refine ⟨?_, HB⟩
                        have h := HA.out
                        rw [mix_full (by rw [HTR.out.1, HEC.out]) (by rw [(HSV.out.2 i HII.out).1, HEC.out]), HTG.out] at h
                        exact ⟨by rw [if_neg HIK.out]; exact h⟩
                    | succ k3 =>
                      have hc : j < L := by have := HI3.out; omega
                      have b1 : decide ((j : Int) < (L : Int)) = true := decide_eq_true (by omega)
                      have b2 : decide (j < L) = true := decide_eq_true hc
                      have b5 : 0 ≤ (j : Int) := by omega
                      have b6 : (j : Int) < (L : Int) := by omega
                      have hrow := HSV.out.2 i HII.out
                      have hml : (mix tg (V.getD i []) j).length = L := by rw [mix_len (by rw [HTR.out.1, hrow.1]), hrow.1]
                      have hgi : (V.set i (mix tg (V.getD i []) j)).getD i [] = mix tg (V.getD i []) j := by rw [getD_set _ _ _ _ _ (by rw [HSV.out.1]; exact HII.out), if_pos rfl]
                      have hgp : (V.set i (mix tg (V.getD i []) j)).getD k [] = p := by rw [getD_set _ _ _ _ _ (by rw [HSV.out.1]; exact HII.out), if_neg HIK.out]; exact HVR.out
                      obtain ⟨gi, ci, hxi, y1, y2, hci, y3⟩ := HA.out.row HII.out (by rw [hgi, hml]; omega)
                      rw [hgi, hml] at hxi hci y3
                      obtain ⟨hc1, hf1⟩ := hci j hc
                      rw [mix_at (by rw [HTR.out.1, hrow.1]) (Nat.le_refl j) (by rw [hrow.1]; exact hc)] at hc1
                      obtain ⟨gp, cp, hxp, v1, v2, hcp, v3⟩ := HA.out.row HKN.out (by rw [hgp, HPR.out.1]; omega)
                      rw [hgp, HPR.out.1] at hxp hcp
                      obtain ⟨hc3, hf3⟩ := hcp j hc
                      have hst := fun m => y3 m j (tg.getD j 0) hc
                      simp only [mix_set (show tg.length = (V.getD i []).length by rw [HTR.out.1, hrow.1]) (show j < (V.getD i []).length by rw [hrow.1]; exact hc), List.set_set] at hst
                      have htc : tg.getD j 0 = XX ((V.getD i []).getD j 0) (MM y (p.getD j 0)) := by
                        rw [HTG.out, clr_at fld HPR.out hrow hc, ← HY.out, if_neg HY0.out]
                      simp only [htc] at hst
                      have HBP : Aside0 (Byte (p.getD j 0)) := ⟨HPR.out.2 j hc⟩
                      obtain ⟨z, hz⟩ : ∃ z, z = (V.getD i []).getD j 0 := ⟨_, rfl⟩
                      obtain ⟨q2, hq⟩ : ∃ q2, q2 = p.getD j 0 := ⟨_, rfl⟩
                      simp only [← hz, ← hq] at hc1 hc3 hst HBP
                      have HST : Aside0 (∀ m, At ((wr.drewN m).setCell ⟨gi, j, none⟩ (.int .u8 (Go.bits .xor .u8 z (MM y q2)))) w0.heap.size g n cap (V.set i (mix tg (V.getD i []) (j + 1)))) := ⟨hst⟩
                      have HGB := Aside0.mk y1
                      have HKP : Aside0 (∀ m u, ((wr.drewN m).setCell ⟨gi, j, none⟩ u).cell? ⟨g, i, none⟩ = some (.slice (some ⟨gi, 0, none⟩) L ci) ∧ ((wr.drewN m).setCell ⟨gi, j, none⟩ u).cell? ⟨g, k, none⟩ = some (.slice (some ⟨gp, 0, none⟩) L cp)) := ⟨fun m u => ⟨cell_keep hxi y1.2, cell_keep hxp y1.2⟩⟩
                      clear hst y1 y2 y3 hci hml hgi hgp htc hz hq hc hrow v1 v2 v3 hcp hf3
                      go_wp2_with (fail)
                      go_region_law (first
                        | (go_simp; go_at_call 30
                           refine (smul.calls y q2 _ HBY.out HBP.out).mono ?_
                           rintro ex w2 ⟨rfl, ⟨nd, rfl⟩⟩))
                      all_goals
                        go_wp2_with (fail)
                        go_roundg k3
                        case measure => omega
                        case rel => exact ⟨j + 1, by rw [nxt (by have := HI3.out; have := HL.out; omega)], ⟨by have := HI3.out; omega⟩, ⟨HST.out _⟩, ⟨Below.setCell (by repeat (first | exact HB.out | apply pw_below_drewN | apply below_drew1)) HGB.out.1 _⟩⟩
                case rest =>
                  clear HA HB hxi hc2
                  obtain ⟨HA, HB⟩ := hcut
                  go_wp2_with (fail)
                  go_roundg k2
                  case measure => omega
                  case rel =>
                    refine ⟨i + 1, if i = k then V else V.set i (clr MM XX p c (V.getD i [])), by rw [nxt (by have := HII.out; have := HN2.out; omega)], ⟨by have := HI2.out; omega⟩, ⟨HCX.out⟩, ⟨?_⟩, ⟨?_⟩, HA, HB⟩
                    · by_cases h : i = k
                      · rw [if_pos h]; exact HVR.out
                      · rw [if_neg h, getD_set _ _ _ _ _ (by rw [HSV.out.1]; exact HII.out), if_neg h]; exact HVR.out
                    · by_cases h : i = k
                      · rw [if_pos h]; exact HSV.out
                      · rw [if_neg h]; exact sh_set HSV.out HII.out (clr_rw fld HPR.out (HSV.out.2 i HII.out))
end Go.Proofs.YtladpdeneiaaeaaDoor.Inv
