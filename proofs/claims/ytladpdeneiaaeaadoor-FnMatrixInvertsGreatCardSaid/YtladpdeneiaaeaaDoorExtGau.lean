import Derived.Test.YtladpdeneiaaeaaDoorExtGauS
import Derived.Deep.RegionLaw
import Derived.Deep.DeepCutAuto
import Derived.Deep.CutBlock
/-! gaussianElimination, walked. -/
namespace Go.Proofs.YtladpdeneiaaeaaDoor.Inv
open Go.RowKit Go.Proofs.YtladpdeneiaaeaaDoorW.PrintWords Go.Proofs.YtladpdeneiaaeaaDoorW.PrintLast Go.Proofs.YtladpdeneiaaeaaDoorW.PrintMore
set_option linter.unusedVariables false
theorem find_first {W : Mat} {c d i : Nat} (h : el W i c ≠ 0) : find W c (d + 1) i = i := by rw [find, if_neg h]
theorem find_next {W : Mat} {c d i : Nat} (h : el W i c = 0) : find W c (d + 1) i = find W c d (i + 1) := by rw [find, if_pos h]
set_option maxHeartbeats 16000000 in
set_option maxRecDepth 100000 in
theorem gaussian.calls (w0 W : World) (g n cap L : Nat) (xs : Mat) (hG : PInv.Glob w0) (hB : Below w0.heap.size w0 W) (hA : At W w0.heap.size g n cap xs) (hS : Sh n L xs) (hn : 0 < n) (hnL : n ≤ L) (hL : L < 1000000) :
    Calls Tryd.prog 61 #[.slice (some ⟨g, 0, none⟩) n cap] W fun e w' => ((gauss MM XX II n xs = none ∧ ∃ t a, e = .returned (.iface t (.pointer (some a)))) ∨ ∃ G, gauss MM XX II n xs = some G ∧ e = .returned .nilIface ∧ At w' w0.heap.size g n cap G) ∧ Below w0.heap.size w0 w' := by
  obtain ⟨g0, c0, hx0, z1, z2, z3, z4⟩ := hA.row (i := 0) hn (by rw [(hS.2 0 hn).1]; omega)
  rw [(hS.2 0 hn).1] at hx0
  obtain ⟨te, ae, he⟩ := hG.s7
  have HE := Aside0.mk he
  have HG := Aside0.mk hG
  have HB := Aside0.mk hB
  have HA := Aside0.mk hA
  have HS := Aside0.mk hS
  have HN := Aside0.mk hn
  have HNL := Aside0.mk hnL
  have HL := Aside0.mk hL
  have d0 : decide (n ≤ 0) = false := decide_eq_false (by omega)
  have d1 : decide ((n : Int) ≤ 0) = false := decide_eq_false (by omega)
  have hn1 : (0 : Int) < (n : Int) := by omega
  clear hG hB hA hS hnL hL z1 z2 z3 z4 he
  go_enter Tryd.func61, Tryd.ntmps61
  go_wp2_with (fail)
  go_loopg [24] n (fun kq v24 w' => ∃ (r : Nat) (G : Mat), v24 = .int .i64 (r : Int) ∧ Aside0 (r + kq = n) ∧ Aside0 (g1 MM XX II n kq r G = g1 MM XX II n n 0 xs) ∧ Aside0 (Sh n L G) ∧ Aside0 (At w' w0.heap.size g n cap G) ∧ Aside0 (Below w0.heap.size w0 w'))
  case atStart => exact ⟨0, xs, rfl, ⟨by omega⟩, ⟨rfl⟩, HS, HA, HB⟩
  case round =>
    clear HS HA HB hx0
    obtain ⟨r, G, rfl, HI, HEQ, HS, HA, HB⟩ := hrel
    cases gk with
    | zero =>
      have er : r = n := by have := HI.out; omega
      have e1 : decide ((r : Int) < (n : Int)) = false := decide_eq_false (by omega)
      have e2 : decide (r < n) = false := decide_eq_false (by omega)
      have HGS : Aside0 (gauss MM XX II n xs = some (g2 MM XX n 0 G)) := ⟨by
        have h := HEQ.out
        rw [g1] at h
        unfold gauss
        rw [← h]⟩
      clear er
      go_wp2_with (fail)
      go_loopg [149] n (fun kq v149 w' => ∃ (d : Nat) (U : Mat), v149 = .int .i64 (d : Int) ∧ Aside0 (d + kq = n) ∧ Aside0 (g2 MM XX kq d U = g2 MM XX n 0 G) ∧ Aside0 (Sh n L U) ∧ Aside0 (At w' w0.heap.size g n cap U) ∧ Aside0 (Below w0.heap.size w0 w'))
      case atStart => exact ⟨0, G, rfl, ⟨by omega⟩, ⟨rfl⟩, HS, HA, HB⟩
      case round =>
        clear HS HA HB HI HEQ e1 e2
        obtain ⟨d, U, rfl, HI, HEQ, HS, HA, HB⟩ := hrel
        cases gk with
        | zero =>
          have ed : d = n := by have := HI.out; omega
          have e1 : decide ((d : Int) < (n : Int)) = false := decide_eq_false (by omega)
          have e2 : decide (d < n) = false := decide_eq_false (by omega)
          clear ed
          go_wp2_with (fail)
          go_ret
          exact ⟨.inr ⟨U, by rw [HGS.out, ← HEQ.out, g2], rfl, HA.out⟩, HB.out⟩
        | succ k1 =>
          have hd : d < n := by have := HI.out; omega
          have e1 : decide ((d : Int) < (n : Int)) = true := decide_eq_true (by omega)
          have e2 : decide (d < n) = true := decide_eq_true hd
          have e3 : 0 ≤ (d : Int) := by omega
          have e4 : (d : Int) < (n : Int) := by omega
          have e5 : (d : Int) < (L : Int) := by have := HNL.out; omega
          have e6 : decide ((d : Int) < (L : Int)) = true := decide_eq_true e5
          have e7 : decide (d < L) = true := decide_eq_true (by omega)
          have HR := Aside0.mk hd
          obtain ⟨p, hp⟩ : ∃ p, p = U.getD d [] := ⟨_, rfl⟩
          have HPR : Aside0 (Rw L p) := ⟨by rw [hp]; exact HS.out.2 d hd⟩
          have HVR0 := Aside0.mk hp.symm
          have HEQ2 : Aside0 (g2 MM XX k1 (d + 1) (clrs MM XX p d d 0 U) = g2 MM XX n 0 G) := ⟨by rw [← HEQ.out, g2, hp]⟩
          clear hp hd
          go_wp2_with (fail)
          go_loopg [153] d (fun kq v153 w' => ∃ (i : Nat) (V : Mat), v153 = .int .i64 (i : Int) ∧ Aside0 (i + kq = d) ∧ Aside0 (0 ≤ i) ∧ Aside0 (clrs MM XX p d kq i V = clrs MM XX p d d 0 U) ∧ Aside0 (V.getD d [] = p) ∧ Aside0 (Sh n L V) ∧ Aside0 (At w' w0.heap.size g n cap V) ∧ Aside0 (Below w0.heap.size w0 w'))
          case atStart => exact ⟨0, U, rfl, ⟨by omega⟩, ⟨by omega⟩, ⟨rfl⟩, HVR0, HS, HA, HB⟩
          case round =>
            clear HA HB HS e1 e2
            obtain ⟨i, V, rfl, HI2, HRI, HCL, HVR, HSV, HA, HB⟩ := hrel
            cases gk with
            | zero =>
              have ei : i = d := by have := HI2.out; omega
              have b1 : decide ((i : Int) < (d : Int)) = false := decide_eq_false (by omega)
              have b2 : decide (i < d) = false := decide_eq_false (by omega)
              clear ei
              go_wp2_with (fail)
              go_roundg k1
              case measure => omega
              case rel => exact ⟨d + 1, V, by rw [nxt (by have := HR.out; have := HNL.out; have := HL.out; omega)], ⟨by have := HI.out; omega⟩, ⟨by have h := HCL.out; rw [clrs] at h; rw [h]; exact HEQ2.out⟩, HSV, HA, HB⟩
            | succ k2 =>
          have hi : i < n := by have := HI2.out; have := HR.out; omega
          have b1 : decide ((i : Int) < (d : Int)) = true := decide_eq_true (by have := HI2.out; omega)
          have b2 : decide (i < d) = true := decide_eq_true (by have := HI2.out; omega)
          have b3 : 0 ≤ (i : Int) := by omega
          have b4 : (i : Int) < (n : Int) := by omega
          have hli := (HSV.out.2 i hi).1
          obtain ⟨gi, ci, hxi, y1, y2, hci, y3⟩ := HA.out.row hi (by have := HNL.out; have := HN.out; omega)
          rw [hli] at hxi hci
          obtain ⟨hc2, y4⟩ := hci d (by have := HNL.out; have := HR.out; omega)
          obtain ⟨y, hy⟩ : ∃ y, y = (V.getD i []).getD d 0 := ⟨_, rfl⟩
          rw [← hy] at hc2
          have HY := Aside0.mk hy
          have HBY : Aside0 (Byte y) := ⟨by rw [hy]; exact (HSV.out.2 i hi).2 d (by have := HNL.out; have := HR.out; omega)⟩
          have HII := Aside0.mk hi
          clear hci y1 y2 y3 y4 hy hli hi
          go_upto_block 13 with (fail)
          go_cut [14, 15, 16] (fun _ _ _ wc => Aside0 (At wc w0.heap.size g n cap (V.set i (clr MM XX p d (V.getD i [])))) ∧ Aside0 (Below w0.heap.size w0 wc))
          case first =>
            by_cases hy0 : y = 0
            · have b5 : (y == 0) = true := beq_iff_eq.mpr hy0
              have b6 : (y != 0) = false := bne_eq_false_iff_eq.mpr hy0
              have HY0 := Aside0.mk hy0
              clear hy0
              go_wp2_with (fail)
              go_meet
              case rel =>
                have e : V.set i (clr MM XX p d (V.getD i [])) = V := by
                  unfold clr
                  rw [if_pos (by rw [← HY.out]; exact HY0.out), set_getD _ _ _ (by rw [HSV.out.1]; exact HII.out)]
                exact ⟨by rw [e]; exact HA, HB⟩
            · have b5 : (y == 0) = false := beq_eq_false_iff_ne.mpr hy0
              have b6 : (y != 0) = true := bne_iff_ne.mpr hy0
              have HY0 := Aside0.mk hy0
              clear hy0
              go_wp2_with (fail)
              (try simp only [b6])
              clear b5 b6 hxi hc2
              obtain ⟨tg, htg⟩ : ∃ tg, tg = clr MM XX p d (V.getD i []) := ⟨_, rfl⟩
              have HTG := Aside0.mk htg
              have HTR := Aside0.mk (show Rw L tg by rw [htg]; exact clr_rw fld HPR.out (HSV.out.2 i HII.out))
              clear htg
              go_loopg [172] L (fun kq vc w' => ∃ (c : Nat), vc = .int .i64 (c : Int) ∧ Aside0 (c + kq = L) ∧ Aside0 (At w' w0.heap.size g n cap (V.set i (mix tg (V.getD i []) c))) ∧ Aside0 (Below w0.heap.size w0 w'))
              case atStart => exact ⟨0, rfl, ⟨by omega⟩, ⟨by rw [mix_zero, set_getD _ _ _ (by rw [HSV.out.1]; exact HII.out)]; exact HA.out⟩, HB⟩
              case round =>
                clear HA HB b1 b2
                obtain ⟨c, rfl, HI3, HA, HB⟩ := hrel
                cases gk with
                | zero =>
                  have ec : c = L := by have := HI3.out; omega
                  have b1 : decide ((c : Int) < (L : Int)) = false := decide_eq_false (by omega)
                  have b2 : decide (c < L) = false := decide_eq_false (by omega)
                  have HEC := Aside0.mk ec
                  clear ec
                  go_wp2_with (fail)
                  go_meet
                  case rel =>
                    refine ⟨?_, HB⟩
                    have h := HA.out
                    rw [mix_full (by rw [HTR.out.1, HEC.out]) (by rw [(HSV.out.2 i HII.out).1, HEC.out]), HTG.out] at h
                    exact ⟨h⟩
                | succ k3 =>
                  have hc : c < L := by have := HI3.out; omega
                  have b1 : decide ((c : Int) < (L : Int)) = true := decide_eq_true (by omega)
                  have b2 : decide (c < L) = true := decide_eq_true hc
                  have b5 : 0 ≤ (c : Int) := by omega
                  have b6 : (c : Int) < (L : Int) := by omega
                  have hrow := HSV.out.2 i HII.out
                  have hml : (mix tg (V.getD i []) c).length = L := by rw [mix_len (by rw [HTR.out.1, hrow.1]), hrow.1]
                  have hgi : (V.set i (mix tg (V.getD i []) c)).getD i [] = mix tg (V.getD i []) c := by rw [getD_set _ _ _ _ _ (by rw [HSV.out.1]; exact HII.out), if_pos rfl]
                  have hgp : (V.set i (mix tg (V.getD i []) c)).getD d [] = p := by rw [getD_set _ _ _ _ _ (by rw [HSV.out.1]; exact HII.out), if_neg (by have := HI2.out; omega)]; exact HVR.out
                  obtain ⟨gi, ci, hxi, y1, y2, hci, y3⟩ := HA.out.row HII.out (by rw [hgi, hml]; omega)
                  rw [hgi, hml] at hxi hci y3
                  obtain ⟨hc1, hf1⟩ := hci c hc
                  rw [mix_at (by rw [HTR.out.1, hrow.1]) (Nat.le_refl c) (by rw [hrow.1]; exact hc)] at hc1
                  obtain ⟨gp, cp, hxp, v1, v2, hcp, v3⟩ := HA.out.row HR.out (by rw [hgp, HPR.out.1]; omega)
                  rw [hgp, HPR.out.1] at hxp hcp
                  obtain ⟨hc3, hf3⟩ := hcp c hc
                  have hst := fun m => y3 m c (tg.getD c 0) hc
                  simp only [mix_set (show tg.length = (V.getD i []).length by rw [HTR.out.1, hrow.1]) (show c < (V.getD i []).length by rw [hrow.1]; exact hc), List.set_set] at hst
                  have htc : tg.getD c 0 = XX ((V.getD i []).getD c 0) (MM y (p.getD c 0)) := by
                    rw [HTG.out, clr_at fld HPR.out hrow hc, ← HY.out, if_neg HY0.out]
                  simp only [htc] at hst
                  have HBP : Aside0 (Byte (p.getD c 0)) := ⟨HPR.out.2 c hc⟩
                  obtain ⟨z, hz⟩ : ∃ z, z = (V.getD i []).getD c 0 := ⟨_, rfl⟩
                  obtain ⟨q, hq⟩ : ∃ q, q = p.getD c 0 := ⟨_, rfl⟩
                  simp only [← hz, ← hq] at hc1 hc3 hst HBP
                  have HST : Aside0 (∀ m, At ((wr.drewN m).setCell ⟨gi, c, none⟩ (.int .u8 (Go.bits .xor .u8 z (MM y q)))) w0.heap.size g n cap (V.set i (mix tg (V.getD i []) (c + 1)))) := ⟨hst⟩
                  have HGB := Aside0.mk y1
                  have HK : Aside0 (∀ m u, ((wr.drewN m).setCell ⟨gi, c, none⟩ u).cell? ⟨g, i, none⟩ = some (.slice (some ⟨gi, 0, none⟩) L ci) ∧ ((wr.drewN m).setCell ⟨gi, c, none⟩ u).cell? ⟨g, d, none⟩ = some (.slice (some ⟨gp, 0, none⟩) L cp)) := ⟨fun m u => ⟨cell_keep hxi y1.2, cell_keep hxp y1.2⟩⟩
                  clear hst y1 y2 y3 hci hml hgi hgp htc hz hq hc hrow v1 v2 v3 hcp hf3
                  go_wp2_with (fail)
                  go_region_law (first
                    | (go_simp; go_at_call 44
                       refine (gmul.calls y q _ (HG.out.below (by first | exact HB.out | exact pw_below_drewN HB.out _ | exact below_drew1 HB.out)) HBY.out HBP.out).mono ?_
                       rintro ex w2 ⟨rfl, ⟨nd, rfl⟩⟩))
                  all_goals
                    go_wp2_with (fail)
                    go_roundg k3
                    case measure => omega
                    case rel => exact ⟨c + 1, by rw [nxt (by have := HI3.out; have := HL.out; omega)], ⟨by have := HI3.out; omega⟩, ⟨HST.out _⟩, ⟨Below.setCell (by repeat (first | exact HB.out | apply pw_below_drewN | apply below_drew1)) HGB.out.1 _⟩⟩
          case rest =>
            clear HA HB hxi hc2
            obtain ⟨HA, HB⟩ := hcut
            go_wp2_with (fail)
            go_roundg k2
            case measure => omega
            case rel => exact ⟨i + 1, V.set i (clr MM XX p d (V.getD i [])), by rw [nxt (by have := HII.out; have := HNL.out; have := HL.out; omega)], ⟨by have := HI2.out; omega⟩, ⟨by omega⟩, ⟨HCL.out⟩, ⟨by rw [getD_set _ _ _ _ _ (by rw [HSV.out.1]; exact HII.out), if_neg (by have := HI2.out; omega)]; exact HVR.out⟩, ⟨sh_set HSV.out HII.out (clr_rw fld HPR.out (HSV.out.2 i HII.out))⟩, HA, HB⟩
    | succ k1 =>
      have hr : r < n := by have := HI.out; omega
      have e1 : decide ((r : Int) < (n : Int)) = true := decide_eq_true (by omega)
      have e2 : decide (r < n) = true := decide_eq_true hr
      have e3 : 0 ≤ (r : Int) := by omega
      have e4 : (r : Int) < (n : Int) := by omega
      have hrw := HS.out.2 r hr
      have hlr := hrw.1
      obtain ⟨gr, cr, hxr, hbr, hmr, hcr, hsr⟩ := HA.out.row hr (by have := HNL.out; omega)
      have e5 : (r : Int) < (L : Int) := by have := HNL.out; omega
      have e6 : decide ((r : Int) < (L : Int)) = true := decide_eq_true e5
      have e7 : decide (r < L) = true := decide_eq_true (by omega)
      rw [hlr] at hxr hcr
      obtain ⟨hc1, hf1⟩ := hcr r (by omega)
      obtain ⟨x, hx⟩ : ∃ x, x = el G r r := ⟨_, rfl⟩
      rw [show (G.getD r []).getD r 0 = x from hx.symm] at hc1
      have HX := Aside0.mk hx
      have HR := Aside0.mk hr
      have HRW := Aside0.mk hrw
      clear hcr hsr hx hmr hf1 hlr hrw hr hbr
      go_upto_if 34 with (fail)
      go_cut [6, 7] (fun v6 v7 wc => ∃ (W1 : Mat), Aside0 (At wc w0.heap.size g n cap W1) ∧ Aside0 (Sh n L W1) ∧ Aside0 (Below w0.heap.size w0 wc) ∧ Aside0 ((find G r (n - r) r = n ∧ el W1 r r = 0) ∨ (find G r (n - r) r ≠ n ∧ W1 = swp2 G r (find G r (n - r) r) ∧ el W1 r r ≠ 0)))
      case first =>
        by_cases hx0 : x = 0
        · have b0 : (x == 0) = true := beq_iff_eq.mpr hx0
          have HX0 := Aside0.mk hx0
          clear hx0 hxr hc1
          go_wp2_with (fail)
          go_loopg [6] (n - (r + 1)) (fun kq v6 w' => ∃ (i : Nat), v6 = .int .i64 (i : Int) ∧ Aside0 (i + kq = n) ∧ Aside0 (r < i) ∧ Aside0 (find G r kq i = find G r (n - r) r) ∧ Aside0 (At w' w0.heap.size g n cap G) ∧ Aside0 (Below w0.heap.size w0 w'))
          case atStart =>
            have hk : n - r = k1 + 1 := by have := HI.out; omega
            exact ⟨r + 1, by rw [nxt (by have := HR.out; have := HNL.out; have := HL.out; omega)], ⟨by have := HR.out; omega⟩, ⟨by omega⟩, ⟨by rw [hk, find_next (by rw [← HX.out]; exact HX0.out), show n - (r + 1) = k1 by omega]⟩, HA, HB⟩
          case round =>
            clear HA HB b0
            obtain ⟨i, rfl, HI2, HRI, HF, HA, HB⟩ := hrel
            cases gk with
            | zero =>
              have ei : i = n := by have := HI2.out; omega
              have b1 : decide ((i : Int) < (n : Int)) = false := decide_eq_false (by omega)
              have b2 : decide (i < n) = false := decide_eq_false (by omega)
              have HEI := Aside0.mk ei
              clear ei
              go_wp2_with (fail)
              go_meet
              case rel => exact ⟨G, HA, HS, HB, ⟨.inl ⟨by rw [← HF.out, find]; exact HEI.out, by rw [← HX.out]; exact HX0.out⟩⟩⟩
            | succ k2 =>
              have hi : i < n := by have := HI2.out; omega
              have b1 : decide ((i : Int) < (n : Int)) = true := decide_eq_true (by omega)
              have b2 : decide (i < n) = true := decide_eq_true hi
              have b3 : 0 ≤ (i : Int) := by omega
              have b4 : (i : Int) < (n : Int) := by omega
              have hli := (HS.out.2 i hi).1
              obtain ⟨gi, ci, hxi, y1, y2, hci, y3⟩ := HA.out.row hi (by have := HNL.out; have := HN.out; omega)
              rw [hli] at hxi hci
              obtain ⟨hc2, y4⟩ := hci r (by have := HNL.out; have := HR.out; omega)
              obtain ⟨y, hy⟩ : ∃ y, y = el G i r := ⟨_, rfl⟩
              rw [show (G.getD i []).getD r 0 = y from hy.symm] at hc2
              have HY := Aside0.mk hy
              have HII := Aside0.mk hi
              clear hci y1 y2 y3 y4 hy hli hi
              by_cases hy0 : y = 0
              · have b5 : (y == 0) = true := beq_iff_eq.mpr hy0
                have b6 : (y != 0) = false := bne_eq_false_iff_eq.mpr hy0
                have HY0 := Aside0.mk hy0
                clear hy0
                go_wp2_with (fail)
                go_roundg k2
                case measure => omega
                case rel => exact ⟨i + 1, by rw [nxt (by have := HII.out; have := HNL.out; have := HL.out; omega)], ⟨by have := HI2.out; omega⟩, ⟨by have := HRI.out; omega⟩, ⟨by rw [← HF.out, find_next (by rw [← HY.out]; exact HY0.out)]⟩, HA, HB⟩
              · have b5 : (y == 0) = false := beq_eq_false_iff_ne.mpr hy0
                have b6 : (y != 0) = true := bne_iff_ne.mpr hy0
                have HY0 := Aside0.mk hy0
                clear hy0
                go_wp2_with (fail)
                refine (swapRows.calls w0.heap.size g n cap G r i _ HA.out HR.out HII.out).mono ?_
                rintro ex w2 ⟨rfl, h1, h2⟩
                have HA2 := Aside0.mk h1
                have HB2 := Aside0.mk (HB.out.trans h2)
                clear h1 h2 HA HB hxi hc2
                dsimp only
                go_wp2_with (fail)
                go_meet
                case rel =>
                  have hi0 : el G i r ≠ 0 := by rw [← HY.out]; exact HY0.out
                  have hfd : find G r (n - r) r = i := by rw [← HF.out]; exact find_first hi0
                  refine ⟨swp2 G r i, HA2, ⟨sh_swp HS.out HR.out HII.out⟩, HB2, ⟨.inr ?_⟩⟩
                  rw [hfd]
                  refine ⟨by have := HII.out; omega, rfl, ?_⟩
                  unfold el
                  rw [swp2_at G r i r (by rw [HS.out.1]; exact HR.out) (by rw [HS.out.1]; exact HII.out), if_pos rfl]
                  exact hi0
        · have b0 : (x == 0) = false := beq_eq_false_iff_ne.mpr hx0
          have HX0 := Aside0.mk hx0
          clear hx0 hxr hc1
          go_wp2_with (fail)
          go_meet
          case rel =>
            have hx0 : el G r r ≠ 0 := by rw [← HX.out]; exact HX0.out
            have hfd : find G r (n - r) r = r := by have := HI.out; rw [show n - r = k1 + 1 by omega]; exact find_first hx0
            exact ⟨G, HA, HS, HB, ⟨.inr (by rw [hfd]; exact ⟨by have := HR.out; omega, (swp2_self G r (by rw [HS.out.1]; exact HR.out)).symm, hx0⟩)⟩⟩
      case rest =>
        clear HS HA HB hxr hc1 HX
        obtain ⟨W1, HA, HS, HB, HF⟩ := hcut
        have hr := HR.out
        obtain ⟨gr, cr, hxr, y1, y2, hcr, y3⟩ := HA.out.row hr (by have := (HS.out.2 r hr).1; have := HNL.out; omega)
        rw [(HS.out.2 r hr).1] at hxr hcr
        obtain ⟨hc1, y4⟩ := hcr r (by have := HNL.out; omega)
        obtain ⟨x1, hx⟩ : ∃ x, x = el W1 r r := ⟨_, rfl⟩
        rw [show (W1.getD r []).getD r 0 = x1 from hx.symm] at hc1
        have HX := Aside0.mk hx
        clear hcr y1 y2 y3 y4 hx hr
        by_cases hf : find G r (n - r) r = n
        · have hx0 : x1 = 0 := by rw [HX.out]; exact HF.out.elim (fun h => h.2) (fun h => absurd hf h.1)
          have b0 : (x1 == 0) = true := beq_iff_eq.mpr hx0
          have he := pw_cell_below HB.out HE.out
          have HGN : Aside0 (gauss MM XX II n xs = none) := ⟨by
            unfold gauss
            rw [← HEQ.out, g1, gStage_none hf]⟩
          clear hx0 hf
          go_wp2_with (fail)
          go_ret
          exact ⟨.inl ⟨HGN.out, _, _, rfl⟩, HB.out⟩
        · have hx0 : x1 ≠ 0 := by rw [HX.out]; exact HF.out.elim (fun h => absurd h.1 hf) (fun h => h.2.2)
          have HW1 : Aside0 (W1 = swp2 G r (find G r (n - r) r)) := ⟨HF.out.elim (fun h => absurd h.1 hf) (fun h => h.2.1)⟩
          have b0 : (x1 == 0) = false := beq_eq_false_iff_ne.mpr hx0
          have HX0 := Aside0.mk hx0
          have HFN := Aside0.mk hf
          clear hx0 hf HF
          go_upto_if 73 with (fail)
          go_cut [8, 9] (fun v8 v9 wc => Aside0 (At wc w0.heap.size g n cap (W1.set r (piv MM II r (W1.getD r [])))) ∧ Aside0 (Below w0.heap.size w0 wc))
          case first =>
            by_cases hx1 : x1 = 1
            · have b5 : (x1 == 1) = true := beq_iff_eq.mpr hx1
              have b6 : (x1 != 1) = false := bne_eq_false_iff_eq.mpr hx1
              have HX1 := Aside0.mk hx1
              clear hx1
              go_wp2_with (fail)
              go_meet
              case rel =>
                have e : W1.set r (piv MM II r (W1.getD r [])) = W1 := by
                  unfold piv
                  rw [if_pos (by rw [show (W1.getD r []).getD r 0 = x1 from HX.out.symm]; exact HX1.out), set_getD _ _ _ (by rw [HS.out.1]; exact HR.out)]
                exact ⟨by rw [e]; exact HA, HB⟩
            · have b5 : (x1 == 1) = false := beq_eq_false_iff_ne.mpr hx1
              have b6 : (x1 != 1) = true := bne_iff_ne.mpr hx1
              have HX1 := Aside0.mk hx1
              clear hx1
              have hby := (HS.out.2 r HR.out).2 r (by have := HNL.out; have := HR.out; omega)
              rw [show (W1.getD r []).getD r 0 = x1 from HX.out.symm] at hby
              have HBY := Aside0.mk hby
              clear hby
              go_wp2_with (fail)
              refine (gover.calls x1 _ (HG.out.below (by first | exact HB.out | exact pw_below_drewN HB.out _)) (by have := HBY.out.1; have := HX0.out; omega) HBY.out.2).mono ?_
              rintro ex w2 ⟨rfl, ⟨nd, rfl⟩⟩
              have HA2 := Aside0.mk (HA.out.drewN nd)
              have HB2 := Aside0.mk (pw_below_drewN HB.out nd)
              clear HA HB hxr hc1
              dsimp only
              go_wp2_with (fail)
              obtain ⟨s, hs⟩ : ∃ s, s = II x1 := ⟨_, rfl⟩
              rw [← hs]
              (try simp only [b6])
              have HSS := Aside0.mk hs
              clear hs b0 b5 b6
              obtain ⟨tg, htg⟩ : ∃ tg, tg = scl MM s (W1.getD r []) := ⟨_, rfl⟩
              have HTG := Aside0.mk htg
              have HTR := Aside0.mk (show Rw L tg by rw [htg]; exact scl_rw fld s (HS.out.2 r HR.out))
              clear htg
              go_loopg [83] L (fun kq v83 w' => ∃ (c : Nat), v83 = .int .i64 (c : Int) ∧ Aside0 (c + kq = L) ∧ Aside0 (At w' w0.heap.size g n cap (W1.set r (mix tg (W1.getD r []) c))) ∧ Aside0 (Below w0.heap.size w0 w'))
              case atStart => exact ⟨0, rfl, ⟨by omega⟩, ⟨by rw [mix_zero, set_getD _ _ _ (by rw [HS.out.1]; exact HR.out)]; exact HA2.out⟩, HB2⟩
              case round =>
                clear HA2 HB2
                obtain ⟨c, rfl, HI2, HA, HB⟩ := hrel
                cases gk with
                | zero =>
                  have ec : c = L := by have := HI2.out; omega
                  have b1 : decide ((c : Int) < (L : Int)) = false := decide_eq_false (by omega)
                  have b2 : decide (c < L) = false := decide_eq_false (by omega)
                  have HEC := Aside0.mk ec
                  clear ec
                  go_wp2_with (fail)
                  go_meet
                  case rel =>
                    refine ⟨?_, HB⟩
                    have h := HA.out
                    rw [mix_full (by rw [HTR.out.1, HEC.out]) (by rw [(HS.out.2 r HR.out).1, HEC.out]), HTG.out, HSS.out, HX.out] at h
                    rw [piv_eq fld (HS.out.2 r HR.out)]
                    exact ⟨h⟩
                | succ k2 =>
                  have hc : c < L := by have := HI2.out; omega
                  have b1 : decide ((c : Int) < (L : Int)) = true := decide_eq_true (by omega)
                  have b2 : decide (c < L) = true := decide_eq_true hc
                  have b3 : 0 ≤ (c : Int) := by omega
                  have b4 : (c : Int) < (L : Int) := by omega
                  have hml : (mix tg (W1.getD r []) c).length = L := by rw [mix_len (by rw [HTR.out.1, (HS.out.2 r HR.out).1]), (HS.out.2 r HR.out).1]
                  have hgr : (W1.set r (mix tg (W1.getD r []) c)).getD r [] = mix tg (W1.getD r []) c := by rw [getD_set _ _ _ _ _ (by rw [HS.out.1]; exact HR.out), if_pos rfl]
                  obtain ⟨gr, cr, hxr, y1, y2, hcr, y3⟩ := HA.out.row HR.out (by rw [hgr, hml]; omega)
                  rw [hgr, hml] at hxr hcr y3
                  obtain ⟨hc1, hf1⟩ := hcr c hc
                  rw [mix_at (by rw [HTR.out.1, (HS.out.2 r HR.out).1]) (Nat.le_refl c) (by rw [(HS.out.2 r HR.out).1]; exact hc)] at hc1
                  have hst := fun m => y3 m c (tg.getD c 0) hc
                  simp only [mix_set (show tg.length = (W1.getD r []).length by rw [HTR.out.1, (HS.out.2 r HR.out).1]) (show c < (W1.getD r []).length by rw [(HS.out.2 r HR.out).1]; exact hc), List.set_set] at hst
                  have hby := (HS.out.2 r HR.out).2 c hc
                  have htc : tg.getD c 0 = MM ((W1.getD r []).getD c 0) s := by rw [HTG.out, scl_at s (HS.out.2 r HR.out) hc]
                  simp only [htc] at hst
                  obtain ⟨z, hz⟩ : ∃ z, z = (W1.getD r []).getD c 0 := ⟨_, rfl⟩
                  simp only [← hz] at hc1 hst hby
                  have HST := Aside0.mk hst
                  have HBZ := Aside0.mk hby
                  have HGB := Aside0.mk y1
                  have hbs : Aside0 (Byte s) := ⟨by rw [HSS.out]; unfold II; exact ⟨Int.natCast_nonneg _, by have := FldR.div_lt 1 x1.toNat; omega⟩⟩
                  clear hst hby y1 y2 y3 hcr hml hgr htc hz hc
                  go_wp2_with (fail)
                  have HK : Aside0 (∀ m u, ((wr.drewN m).setCell ⟨gr, c, none⟩ u).cell? ⟨g, r, none⟩ = some (.slice (some ⟨gr, 0, none⟩) L cr)) := ⟨fun m u => cell_keep hxr HGB.out.2⟩
                  go_region_law (first
                    | (go_simp; go_at_call 44
                       refine (gmul.calls z s _ (HG.out.below (by first | exact HB.out | exact pw_below_drewN HB.out _ | exact below_drew1 HB.out)) HBZ.out hbs.out).mono ?_
                       rintro ex w2 ⟨rfl, ⟨nd, rfl⟩⟩))
                  all_goals
                    go_wp2_with (fail)
                    go_roundg k2
                    case measure => omega
                    case rel => exact ⟨c + 1, by rw [nxt (by have := HI2.out; have := HL.out; omega)], ⟨by have := HI2.out; omega⟩, ⟨HST.out _⟩, ⟨Below.setCell (by repeat (first | exact HB.out | apply pw_below_drewN | apply below_drew1)) HGB.out.1 _⟩⟩
          case rest =>
            clear HA HB hxr hc1 b0
            obtain ⟨HA, HB⟩ := hcut
            obtain ⟨p, hp⟩ : ∃ p, p = piv MM II r (W1.getD r []) := ⟨_, rfl⟩
            rw [← hp] at HA
            have HP := Aside0.mk hp
            have HPR : Aside0 (Rw L p) := ⟨by rw [hp, piv_eq fld (HS.out.2 r HR.out)]; exact scl_rw fld _ (HS.out.2 r HR.out)⟩
            have HS2 : Aside0 (Sh n L (W1.set r p)) := ⟨sh_set HS.out HR.out HPR.out⟩
            have HW1L : Aside0 (r < W1.length) := ⟨by rw [HS.out.1]; exact HR.out⟩
            have HEQ2 : Aside0 (g1 MM XX II n k1 (r + 1) (clrs MM XX p r (n - (r + 1)) (r + 1) (W1.set r p)) = g1 MM XX II n n 0 xs) := ⟨by
              have h : gStage MM XX II n r G = some (clrs MM XX p r (n - (r + 1)) (r + 1) (W1.set r p)) := by
                unfold gStage
                rw [if_neg HFN.out, ← HW1.out, ← HP.out]
              rw [← HEQ.out, g1, h]⟩
            clear hp HS HEQ HP HW1 HFN HX HX0 HRW
            go_wp2_with (fail)
            go_loopg [10] (n - (r + 1)) (fun kq v10 w' => ∃ (i : Nat) (V : Mat), v10 = .int .i64 (i : Int) ∧ Aside0 (i + kq = n) ∧ Aside0 (r < i) ∧ Aside0 (clrs MM XX p r kq i V = clrs MM XX p r (n - (r + 1)) (r + 1) (W1.set r p)) ∧ Aside0 (V.getD r [] = p) ∧ Aside0 (Sh n L V) ∧ Aside0 (At w' w0.heap.size g n cap V) ∧ Aside0 (Below w0.heap.size w0 w'))
            case atStart => exact ⟨r + 1, W1.set r p, by rw [nxt (by have := HR.out; have := HNL.out; have := HL.out; omega)], ⟨by have := HR.out; omega⟩, ⟨by omega⟩, ⟨rfl⟩, ⟨by rw [getD_set _ _ _ _ _ HW1L.out, if_pos rfl]⟩, HS2, HA, HB⟩
            case round =>
              clear HA HB HS2
              obtain ⟨i, V, rfl, HI2, HRI, HCL, HVR, HSV, HA, HB⟩ := hrel
              cases gk with
              | zero =>
                have ei : i = n := by have := HI2.out; omega
                have b1 : decide ((i : Int) < (n : Int)) = false := decide_eq_false (by omega)
                have b2 : decide (i < n) = false := decide_eq_false (by omega)
                clear ei
                go_wp2_with (fail)
                go_roundg k1
                case measure => omega
                case rel => exact ⟨r + 1, V, by rw [nxt (by have := HR.out; have := HNL.out; have := HL.out; omega)], ⟨by have := HI.out; omega⟩, ⟨by have h := HCL.out; rw [clrs] at h; rw [h]; exact HEQ2.out⟩, HSV, HA, HB⟩
              | succ k2 =>
                have hi : i < n := by have := HI2.out; omega
                have b1 : decide ((i : Int) < (n : Int)) = true := decide_eq_true (by have := HI2.out; omega)
                have b2 : decide (i < n) = true := decide_eq_true (by have := HI2.out; omega)
                have b3 : 0 ≤ (i : Int) := by omega
                have b4 : (i : Int) < (n : Int) := by omega
                have hli := (HSV.out.2 i hi).1
                obtain ⟨gi, ci, hxi, y1, y2, hci, y3⟩ := HA.out.row hi (by have := HNL.out; have := HN.out; omega)
                rw [hli] at hxi hci
                obtain ⟨hc2, y4⟩ := hci r (by have := HNL.out; have := HR.out; omega)
                obtain ⟨y, hy⟩ : ∃ y, y = (V.getD i []).getD r 0 := ⟨_, rfl⟩
                rw [← hy] at hc2
                have HY := Aside0.mk hy
                have HBY : Aside0 (Byte y) := ⟨by rw [hy]; exact (HSV.out.2 i hi).2 r (by have := HNL.out; have := HR.out; omega)⟩
                have HII := Aside0.mk hi
                clear hci y1 y2 y3 y4 hy hli hi
                go_upto_block 7 with (fail)
                go_cut [11, 12] (fun _ _ wc => Aside0 (At wc w0.heap.size g n cap (V.set i (clr MM XX p r (V.getD i [])))) ∧ Aside0 (Below w0.heap.size w0 wc))
                case first =>
                  by_cases hy0 : y = 0
                  · have b5 : (y == 0) = true := beq_iff_eq.mpr hy0
                    have b6 : (y != 0) = false := bne_eq_false_iff_eq.mpr hy0
                    have HY0 := Aside0.mk hy0
                    clear hy0
                    go_wp2_with (fail)
                    go_meet
                    case rel =>
                      have e : V.set i (clr MM XX p r (V.getD i [])) = V := by
                        unfold clr
                        rw [if_pos (by rw [← HY.out]; exact HY0.out), set_getD _ _ _ (by rw [HSV.out.1]; exact HII.out)]
                      exact ⟨by rw [e]; exact HA, HB⟩
                  · have b5 : (y == 0) = false := beq_eq_false_iff_ne.mpr hy0
                    have b6 : (y != 0) = true := bne_iff_ne.mpr hy0
                    have HY0 := Aside0.mk hy0
                    clear hy0
                    go_wp2_with (fail)
                    (try simp only [b6])
                    clear b5 b6 hxi hc2
                    obtain ⟨tg, htg⟩ : ∃ tg, tg = clr MM XX p r (V.getD i []) := ⟨_, rfl⟩
                    have HTG := Aside0.mk htg
                    have HTR := Aside0.mk (show Rw L tg by rw [htg]; exact clr_rw fld HPR.out (HSV.out.2 i HII.out))
                    clear htg
                    go_loopg [125] L (fun kq vc w' => ∃ (c : Nat), vc = .int .i64 (c : Int) ∧ Aside0 (c + kq = L) ∧ Aside0 (At w' w0.heap.size g n cap (V.set i (mix tg (V.getD i []) c))) ∧ Aside0 (Below w0.heap.size w0 w'))
                    case atStart => exact ⟨0, rfl, ⟨by omega⟩, ⟨by rw [mix_zero, set_getD _ _ _ (by rw [HSV.out.1]; exact HII.out)]; exact HA.out⟩, HB⟩
                    case round =>
                      clear HA HB b1 b2
                      obtain ⟨c, rfl, HI3, HA, HB⟩ := hrel
                      cases gk with
                      | zero =>
                        have ec : c = L := by have := HI3.out; omega
                        have b1 : decide ((c : Int) < (L : Int)) = false := decide_eq_false (by omega)
                        have b2 : decide (c < L) = false := decide_eq_false (by omega)
                        have HEC := Aside0.mk ec
                        clear ec
                        go_wp2_with (fail)
                        go_meet
                        case rel =>
                          refine ⟨?_, HB⟩
                          have h := HA.out
                          rw [mix_full (by rw [HTR.out.1, HEC.out]) (by rw [(HSV.out.2 i HII.out).1, HEC.out]), HTG.out] at h
                          exact ⟨h⟩
                      | succ k3 =>
                        have hc : c < L := by have := HI3.out; omega
                        have b1 : decide ((c : Int) < (L : Int)) = true := decide_eq_true (by omega)
                        have b2 : decide (c < L) = true := decide_eq_true hc
                        have b5 : 0 ≤ (c : Int) := by omega
                        have b6 : (c : Int) < (L : Int) := by omega
                        have hrow := HSV.out.2 i HII.out
                        have hml : (mix tg (V.getD i []) c).length = L := by rw [mix_len (by rw [HTR.out.1, hrow.1]), hrow.1]
                        have hgi : (V.set i (mix tg (V.getD i []) c)).getD i [] = mix tg (V.getD i []) c := by rw [getD_set _ _ _ _ _ (by rw [HSV.out.1]; exact HII.out), if_pos rfl]
                        have hgp : (V.set i (mix tg (V.getD i []) c)).getD r [] = p := by rw [getD_set _ _ _ _ _ (by rw [HSV.out.1]; exact HII.out), if_neg (by have := HRI.out; omega)]; exact HVR.out
                        obtain ⟨gi, ci, hxi, y1, y2, hci, y3⟩ := HA.out.row HII.out (by rw [hgi, hml]; omega)
                        rw [hgi, hml] at hxi hci y3
                        obtain ⟨hc1, hf1⟩ := hci c hc
                        rw [mix_at (by rw [HTR.out.1, hrow.1]) (Nat.le_refl c) (by rw [hrow.1]; exact hc)] at hc1
                        obtain ⟨gp, cp, hxp, v1, v2, hcp, v3⟩ := HA.out.row HR.out (by rw [hgp, HPR.out.1]; omega)
                        rw [hgp, HPR.out.1] at hxp hcp
                        obtain ⟨hc3, hf3⟩ := hcp c hc
                        have hst := fun m => y3 m c (tg.getD c 0) hc
                        simp only [mix_set (show tg.length = (V.getD i []).length by rw [HTR.out.1, hrow.1]) (show c < (V.getD i []).length by rw [hrow.1]; exact hc), List.set_set] at hst
                        have htc : tg.getD c 0 = XX ((V.getD i []).getD c 0) (MM y (p.getD c 0)) := by
                          rw [HTG.out, clr_at fld HPR.out hrow hc, ← HY.out, if_neg HY0.out]
                        simp only [htc] at hst
                        have HBP : Aside0 (Byte (p.getD c 0)) := ⟨HPR.out.2 c hc⟩
                        obtain ⟨z, hz⟩ : ∃ z, z = (V.getD i []).getD c 0 := ⟨_, rfl⟩
                        obtain ⟨q, hq⟩ : ∃ q, q = p.getD c 0 := ⟨_, rfl⟩
                        simp only [← hz, ← hq] at hc1 hc3 hst HBP
                        have HST : Aside0 (∀ m, At ((wr.drewN m).setCell ⟨gi, c, none⟩ (.int .u8 (Go.bits .xor .u8 z (MM y q)))) w0.heap.size g n cap (V.set i (mix tg (V.getD i []) (c + 1)))) := ⟨hst⟩
                        have HGB := Aside0.mk y1
                        have HK : Aside0 (∀ m u, ((wr.drewN m).setCell ⟨gi, c, none⟩ u).cell? ⟨g, i, none⟩ = some (.slice (some ⟨gi, 0, none⟩) L ci) ∧ ((wr.drewN m).setCell ⟨gi, c, none⟩ u).cell? ⟨g, r, none⟩ = some (.slice (some ⟨gp, 0, none⟩) L cp)) := ⟨fun m u => ⟨cell_keep hxi y1.2, cell_keep hxp y1.2⟩⟩
                        clear hst y1 y2 y3 hci hml hgi hgp htc hz hq hc hrow v1 v2 v3 hcp hf3
                        go_wp2_with (fail)
                        go_region_law (first
                          | (go_simp; go_at_call 44
                             refine (gmul.calls y q _ (HG.out.below (by first | exact HB.out | exact pw_below_drewN HB.out _ | exact below_drew1 HB.out)) HBY.out HBP.out).mono ?_
                             rintro ex w2 ⟨rfl, ⟨nd, rfl⟩⟩))
                        all_goals
                          go_wp2_with (fail)
                          go_roundg k3
                          case measure => omega
                          case rel => exact ⟨c + 1, by rw [nxt (by have := HI3.out; have := HL.out; omega)], ⟨by have := HI3.out; omega⟩, ⟨HST.out _⟩, ⟨Below.setCell (by repeat (first | exact HB.out | apply pw_below_drewN | apply below_drew1)) HGB.out.1 _⟩⟩
                case rest =>
                  clear HA HB hxi hc2
                  obtain ⟨HA, HB⟩ := hcut
                  go_wp2_with (fail)
                  go_roundg k2
                  case measure => omega
                  case rel => exact ⟨i + 1, V.set i (clr MM XX p r (V.getD i [])), by rw [nxt (by have := HII.out; have := HNL.out; have := HL.out; omega)], ⟨by have := HI2.out; omega⟩, ⟨by have := HRI.out; omega⟩, ⟨HCL.out⟩, ⟨by rw [getD_set _ _ _ _ _ (by rw [HSV.out.1]; exact HII.out), if_neg (by have := HRI.out; omega)]; exact HVR.out⟩, ⟨sh_set HSV.out HII.out (clr_rw fld HPR.out (HSV.out.2 i HII.out))⟩, HA, HB⟩
end Go.Proofs.YtladpdeneiaaeaaDoor.Inv
