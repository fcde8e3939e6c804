import Derived.Test.YtladpdeneiaaeaaDoorExtInvA
/-! SubMatrix, walked. -/
namespace Go.Proofs.YtladpdeneiaaeaaDoor.Inv
open Go.RowKit Go.Proofs.YtladpdeneiaaeaaDoorW.PrintWords Go.Proofs.YtladpdeneiaaeaaDoorW.PrintLast Go.Proofs.YtladpdeneiaaeaaDoorW.PrintMore
set_option linter.unusedVariables false
/-- The columns behind the first n. -/
def right (n : Nat) (G : Mat) : Mat := G.map fun x => x.drop n
theorem right_at {n i : Nat} {G : Mat} (hi : i < G.length) : (right n G).getD i [] = (G.getD i []).drop n := by
  unfold right
  simp only [List.getD_eq_getElem?_getD, List.getElem?_map, List.getElem?_eq_getElem hi, Option.map_some, Option.getD_some]
theorem drop_getD (x : List Int) (n j : Nat) : (x.drop n).getD j 0 = x.getD (n + j) 0 := by
  rw [List.getD_eq_getElem?_getD, List.getD_eq_getElem?_getD, List.getElem?_drop]
theorem rw_drop {L n : Nat} {x : List Int} (hx : Rw L x) (hn : n ≤ L) : Rw (L - n) (x.drop n) := by
  refine ⟨by rw [List.length_drop, hx.1], fun j hj => ?_⟩
  rw [drop_getD]; exact hx.2 _ (by omega)
set_option maxHeartbeats 8000000 in
set_option maxRecDepth 100000 in
/-- SubMatrix of all rows and the columns from n up to 2n. -/
theorem subMatrix.calls (k n M : Nat) (gm cm : Nat) (G Z : Mat) (w : World) (base : Nat) (hM : M = n + n) (hA : At w base gm n cm G) (hS : Sh n M G) (hn : 0 < n) (hn2 : n < 100000) (hz : PInv.spec_Zeros.f k (n : Int) (n : Int) = some Z) (hZ : Sh n n Z) :
    Calls Tryd.prog 62 #[.slice (some ⟨gm, 0, none⟩) n cm, .int .i64 0, .int .i64 (n : Int), .int .i64 (n : Int), .int .i64 (M : Int)] w fun e w' => ∃ g cap, e = .returned (.tuple #[.slice (some ⟨g, 0, none⟩) n cap, .nilIface]) ∧ At w' w.heap.size g n cap (right n G) ∧ Below w.heap.size w w' := by
  have HA0 := Aside0.mk hA
  have HSG := Aside0.mk hS
  have HN := Aside0.mk hn
  have HN2 := Aside0.mk hn2
  have HZ := Aside0.mk hz
  have HS := Aside0.mk hZ
  have HM := Aside0.mk hM
  have ew : wrap64 ((n : Int) - 0) = (n : Int) := by unfold wrap64; omega
  have ew1 : IntKind.i64.wrap ((n : Int) - 0) = (n : Int) := by rw [i64_w]; exact ew
  have ev : wrap64 ((M : Int) - (n : Int)) = (n : Int) := by unfold wrap64; omega
  have ev1 : IntKind.i64.wrap ((M : Int) - (n : Int)) = (n : Int) := by rw [i64_w]; exact ev
  have eu : wrap64 (n : Int) = (n : Int) := by unfold wrap64; omega
  clear hA hS hn2 hz hZ hM
  go_enter Tryd.func62, Tryd.ntmps62
  go_wp2_with (fail)
  refine (PInv.newMatrix.calls k (n : Int) (n : Int) Z _ (by have := HN.out; omega) (by have := HN.out; omega) HZ.out).mono ?_
  rintro ex w1 ⟨v1, rfl, hS1, hb1⟩
  obtain ⟨g, cap, rfl, hgb, hgl, hcl⟩ := Kd.S_form hS1 (by rw [HS.out.1]; exact HN.out)
  rw [HS.out.1] at hS1
  have HA : Aside0 (At w1 w.heap.size g n cap Z) := ⟨hS1⟩
  have HB := Aside0.mk hb1
  simp only [HS.out.1]
  clear hS1 hb1 hgb hgl hcl ew ew1 ev ev1
  try dsimp only
  go_wp2_with (fail)
  (try simp only [eu])
  clear eu
  go_loopg [14] n (fun kq vc w' => ∃ (r : Nat) (V : Mat), vc = .int .i64 (r : Int) ∧ Aside0 (r + kq = n) ∧ Aside0 (∀ i, i < r → V.getD i [] = (G.getD i []).drop n) ∧ Aside0 (Sh n n V) ∧ Aside0 (At w' w.heap.size g n cap V) ∧ Aside0 (Below w.heap.size w w'))
  case atStart => exact ⟨0, Z, rfl, ⟨by omega⟩, ⟨fun i h => absurd h (by omega)⟩, HS, HA, HB⟩
  case round =>
    clear HS HA HB
    obtain ⟨r, V, rfl, HI, HEQ, HS, HA, HB⟩ := hrel
    cases gk with
    | zero =>
      have er : r = n := by have := HI.out; omega
      have b1 : decide ((r : Int) < (n : Int)) = false := decide_eq_false (by omega)
      have b2 : decide (r < n) = false := decide_eq_false (by omega)
      have HER := Aside0.mk er
      clear er
      go_wp2_with (fail)
      go_ret2
      have e : V = right n G := by
        refine ext_getD [] (by unfold right; rw [List.length_map, HS.out.1, HSG.out.1]) fun j hj => ?_
        rw [HS.out.1] at hj
        rw [HEQ.out j (by rw [HER.out]; exact hj), right_at (by rw [HSG.out.1]; exact hj)]
      rw [← e]
      exact ⟨_, _, rfl, HA.out, HB.out⟩
    | succ k1 =>
      have hr : r < n := by have := HI.out; omega
      have b1 : decide ((r : Int) < (n : Int)) = true := decide_eq_true (by omega)
      have b2 : decide (r < n) = true := decide_eq_true hr
      have b3 : 0 ≤ (r : Int) := by omega
      have b4 : (r : Int) < (n : Int) := by omega
      have er0 : wrap64 (r : Int) = (r : Int) := by have := HN2.out; unfold wrap64; omega
      have er1 : IntKind.i64.wrap (r : Int) = (r : Int) := by rw [i64_w]; exact er0
      have er2 : wrap64 ((r : Int) - 0) = (r : Int) := by have := HN2.out; unfold wrap64; omega
      have er3 : IntKind.i64.wrap ((r : Int) - 0) = (r : Int) := by rw [i64_w]; exact er2
      obtain ⟨gs, cs, hxm, m1, m2, hcm, m3⟩ := HA0.out.row hr (by have := HM.out; rw [(HSG.out.2 r hr).1]; omega)
      rw [(HSG.out.2 r hr).1] at hxm hcm
      obtain ⟨tg, htg⟩ : ∃ tg, tg = (G.getD r []).drop n := ⟨_, rfl⟩
      have HTG := Aside0.mk htg
      have HTR : Aside0 (Rw n tg) := ⟨by
        have h := rw_drop (HSG.out.2 r hr) (show n ≤ M by have := HM.out; omega)
        rw [show M - n = n by have := HM.out; omega] at h
        rw [htg]; exact h⟩
      have HXM := Aside0.mk hxm
      have HCM := Aside0.mk (fun c hc => (hcm c hc).1)
      have HRL := Aside0.mk hr
      clear m1 m2 m3 hcm htg hr hxm
      go_wp2_with (fail)
      go_loopg [15] n (fun kq vc w' => ∃ (j q : Nat), vc = .int .i64 (q : Int) ∧ Aside0 (q = n + j) ∧ Aside0 (j + kq = n) ∧ Aside0 (At w' w.heap.size g n cap (V.set r (mix tg (V.getD r []) j))) ∧ Aside0 (Below w.heap.size w w'))
      case atStart => exact ⟨0, n, rfl, ⟨rfl⟩, ⟨by omega⟩, ⟨by rw [mix_zero, set_getD _ _ _ (by rw [HS.out.1]; exact HRL.out)]; exact HA.out⟩, HB⟩
      case round =>
        clear HA HB b1 b2
        obtain ⟨j, q, rfl, HQ, HI2, HA, HB⟩ := hrel
        cases gk with
        | zero =>
          have ej : j = n := by have := HI2.out; omega
          have b1 : decide ((q : Int) < (M : Int)) = false := decide_eq_false (by have := HM.out; have := HQ.out; omega)
          have b2 : decide (q < M) = false := decide_eq_false (by have := HM.out; have := HQ.out; omega)
          have HEJ := Aside0.mk ej
          clear ej er0 er1 er2 er3
          go_wp2_with (fail)
          go_roundg k1
          case measure => omega
          case rel =>
            have h := HA.out
            rw [mix_full (by rw [HTR.out.1, HEJ.out]) (by rw [(HS.out.2 r HRL.out).1, HEJ.out])] at h
            refine ⟨r + 1, V.set r tg, by rw [nxt (by have := HRL.out; have := HN2.out; omega)], ⟨by have := HI.out; omega⟩, ⟨fun i hi => ?_⟩, ⟨sh_set HS.out HRL.out HTR.out⟩, ⟨h⟩, HB⟩
            rw [getD_set _ _ _ _ _ (by rw [HS.out.1]; exact HRL.out)]
            by_cases h2 : r = i
            · rw [if_pos h2, HTG.out, h2]
            · rw [if_neg h2]; exact HEQ.out i (by omega)
        | succ k2 =>
          have hj : j < n := by have := HI2.out; omega
          have hqM : q < M := by have := HM.out; have := HQ.out; omega
          have ew : wrap64 ((q : Int) - (n : Int)) = (j : Int) := by have := HN2.out; have := HQ.out; unfold wrap64; omega
          have ew2 : IntKind.i64.wrap ((q : Int) - (n : Int)) = (j : Int) := by rw [i64_w]; exact ew
          have b1 : decide ((q : Int) < (M : Int)) = true := decide_eq_true (by omega)
          have b2 : decide (q < M) = true := decide_eq_true hqM
          have b5 : 0 ≤ (q : Int) := by omega
          have b6 : (q : Int) < (M : Int) := by omega
          have b7 : (j : Int) < (n : Int) := by omega
          have b8 : decide ((j : Int) < (n : Int)) = true := decide_eq_true b7
          have b9 : decide (j < n) = true := decide_eq_true hj
          have b10 : 0 ≤ (j : Int) := by omega
          have hxc := HCM.out q hqM
          have hrow := HS.out.2 r HRL.out
          have hml : (mix tg (V.getD r []) j).length = n := by rw [mix_len (by rw [HTR.out.1, hrow.1]), hrow.1]
          have hgr : (V.set r (mix tg (V.getD r []) j)).getD r [] = mix tg (V.getD r []) j := by rw [getD_set _ _ _ _ _ (by rw [HS.out.1]; exact HRL.out), if_pos rfl]
          obtain ⟨gr, cr2, hxo, y1, y2, hcr, y3⟩ := HA.out.row HRL.out (by rw [hgr, hml]; omega)
          rw [hgr, hml] at hxo hcr y3
          obtain ⟨hc1, hf1⟩ := hcr j hj
          have hst := fun m => y3 m j (tg.getD j 0) hj
          simp only [mix_set (show tg.length = (V.getD r []).length by rw [HTR.out.1, hrow.1]) (show j < (V.getD r []).length by rw [hrow.1]; exact hj), List.set_set] at hst
          have htc : tg.getD j 0 = (G.getD r []).getD q 0 := by rw [HTG.out, drop_getD, HQ.out]
          simp only [htc] at hst
          obtain ⟨z, hz⟩ : ∃ z, z = (G.getD r []).getD q 0 := ⟨_, rfl⟩
          simp only [← hz] at hxc hst
          have HST := Aside0.mk hst
          have HGB := Aside0.mk y1
          have hxr1 := pw_cell_below HB.out HXM.out
          have hxc1 := pw_cell_below HB.out hxc
          have HKP : Aside0 (∀ u, (wr.setCell ⟨gr, j, none⟩ u).drew.cell? ⟨g, r, none⟩ = some (.slice (some ⟨gr, 0, none⟩) n cr2) ∧ (wr.setCell ⟨gr, j, none⟩ u).drew.cell? ⟨gm, r, none⟩ = some (.slice (some ⟨gs, 0, none⟩) M cs) ∧ (wr.setCell ⟨gr, j, none⟩ u).drew.cell? ⟨gs, q, none⟩ = some (.int .u8 z)) := ⟨fun u => ⟨pw_cell_below (below_drew (Below.refl _ _)) (cell_keep (m := 0) hxo y1.2), pw_cell_below (below_drew1 (Below.setCell HB.out y1.1 u)) HXM.out, pw_cell_below (below_drew1 (Below.setCell HB.out y1.1 u)) hxc⟩⟩
          clear hst y1 y2 y3 hcr hml hgr htc hz hj hqM hrow hxc
          go_wp2_with (fail)
          go_region_held_law (fun w' => w'.cell? ⟨g, r, none⟩ = some (.slice (some ⟨gr, 0, none⟩) n cr2) ∧ w'.cell? ⟨gm, r, none⟩ = some (.slice (some ⟨gs, 0, none⟩) M cs) ∧ w'.cell? ⟨gs, q, none⟩ = some (.int .u8 z)) (first | exact ⟨hxo, hxr1, hxc1⟩ | exact HKP.out _ | go_keep) (fail)
          all_goals
            go_wp2_with (fail)
            go_roundg k2
            case measure => omega
            case rel => exact ⟨j + 1, q + 1, by rw [nxt (by have := HI2.out; have := HN2.out; have := HQ.out; omega)], ⟨by have := HQ.out; omega⟩, ⟨by have := HI2.out; omega⟩, ⟨At.drew (HST.out 0)⟩, ⟨below_drew1 (Below.setCell HB.out HGB.out.1 _)⟩⟩
end Go.Proofs.YtladpdeneiaaeaaDoor.Inv
