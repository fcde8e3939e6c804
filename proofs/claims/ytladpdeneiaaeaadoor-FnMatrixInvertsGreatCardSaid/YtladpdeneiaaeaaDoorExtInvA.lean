import Derived.Test.YtladpdeneiaaeaaDoorExtGau
import Derived.Test.YtladpdeneiaaeaaDoorExtNewM
import Derived.Test.YtladpdeneiaaeaaDoorPInvx0
import Derived.Deep.RegionHeldLaw
import Derived.Deep.DeepCutAuto
import Derived.Deep.CutBlock
/-! identityMatrix, Augment and SubMatrix, walked. -/
namespace Go.Proofs.YtladpdeneiaaeaaDoor.Inv
open Go.RowKit Go.Proofs.YtladpdeneiaaeaaDoorW.PrintWords Go.Proofs.YtladpdeneiaaeaaDoorW.PrintLast Go.Proofs.YtladpdeneiaaeaaDoorW.PrintMore
set_option linter.unusedVariables false
/-- Ones on the diagonal. -/
def unitL : Nat → Nat → Mat → Mat
  | 0, _, V => V
  | d + 1, i, V => unitL d (i + 1) (V.set i ((V.getD i []).set i 1))
def aug (a b : Mat) : Mat := List.zipWith (fun x y => x ++ y) a b
theorem rw_set {L c : Nat} {x : List Int} (h : Rw L x) (y : Int) (hy : Byte y) : Rw L (x.set c y) := by
  refine ⟨by rw [List.length_set, h.1], fun j hj => ?_⟩
  by_cases hc : c < x.length
  · rw [getD_set _ _ _ _ _ hc]
    split
    · exact hy
    · exact h.2 j hj
  · rw [List.set_eq_of_length_le (by omega)]
    exact h.2 j hj
set_option maxHeartbeats 8000000 in
set_option maxRecDepth 100000 in
theorem identity.calls (k n : Nat) (Z : Mat) (w : World) (hn : 0 < n) (hn2 : n < 1000000) (hz : PInv.spec_Zeros.f k (n : Int) (n : Int) = some Z) (hZ : Sh n n Z) :
    Calls Tryd.prog 59 #[.int .i64 (n : Int)] w fun e w' => ∃ g cap, e = .returned (.tuple #[.slice (some ⟨g, 0, none⟩) n cap, .nilIface]) ∧ At w' w.heap.size g n cap (unitL n 0 Z) ∧ Below w.heap.size w w' := by
  have HN := Aside0.mk hn
  have HN2 := Aside0.mk hn2
  have HZ := Aside0.mk hz
  have HS := Aside0.mk hZ
  clear hn hn2 hz hZ
  go_enter Tryd.func59, Tryd.ntmps59
  go_wp2_with (fail)
  refine (PInv.newMatrix.calls k n n Z _ (by have := HN.out; omega) (by have := HN.out; omega) HZ.out).mono ?_
  rintro ex w1 ⟨v1, rfl, hS1, hb1⟩
  obtain ⟨g, cap, rfl, hgb, hgl, _⟩ := Kd.S_form hS1 (by rw [HS.out.1]; exact HN.out)
  rw [HS.out.1] at hS1
  have HA : Aside0 (At w1 w.heap.size g n cap Z) := ⟨hS1⟩
  have HB := Aside0.mk hb1
  simp only [HS.out.1]
  clear hS1 hb1 hgb hgl
  try dsimp only
  go_wp2_with (fail)
  go_loopg [18] n (fun kq vc w' => ∃ (i : Nat) (V : Mat), vc = .int .i64 (i : Int) ∧ Aside0 (i + kq = n) ∧ Aside0 (unitL kq i V = unitL n 0 Z) ∧ Aside0 (Sh n n V) ∧ Aside0 (At w' w.heap.size g n cap V) ∧ Aside0 (Below w.heap.size w w'))
  case atStart => exact ⟨0, Z, rfl, ⟨by omega⟩, ⟨rfl⟩, HS, HA, HB⟩
  case round =>
    clear HS HA HB
    obtain ⟨i, V, rfl, HI, HEQ, HS, HA, HB⟩ := hrel
    cases gk with
    | zero =>
      have ei : i = n := by have := HI.out; omega
      have b1 : decide ((i : Int) < (n : Int)) = false := decide_eq_false (by omega)
      have b2 : decide (i < n) = false := decide_eq_false (by omega)
      clear ei
      go_wp2_with (fail)
      go_ret2
      have h := HEQ.out
      rw [unitL] at h
      rw [← h]
      exact ⟨_, _, rfl, HA.out, HB.out⟩
    | succ k1 =>
      have hi : i < n := by have := HI.out; omega
      have b1 : decide ((i : Int) < (n : Int)) = true := decide_eq_true (by omega)
      have b2 : decide (i < n) = true := decide_eq_true hi
      have b3 : 0 ≤ (i : Int) := by omega
      have b4 : (i : Int) < (n : Int) := by omega
      obtain ⟨gi, ci, hxi, y1, y2, hci, y3⟩ := HA.out.row hi (by rw [(HS.out.2 i hi).1]; exact HN.out)
      rw [(HS.out.2 i hi).1] at hxi hci y3
      obtain ⟨hc1, hf1⟩ := hci i hi
      have HST := Aside0.mk (y3 0 i 1 hi)
      have HGB := Aside0.mk y1
      have HII := Aside0.mk hi
      clear y1 y2 y3 hci hi
      go_wp2_with (fail)
      go_roundg k1
      case measure => omega
      case rel => exact ⟨i + 1, V.set i ((V.getD i []).set i 1), by rw [nxt (by have := HII.out; have := HN2.out; omega)], ⟨by have := HI.out; omega⟩, ⟨HEQ.out⟩, ⟨sh_set HS.out HII.out (rw_set (HS.out.2 i HII.out) 1 ⟨by decide, by decide⟩)⟩, ⟨HST.out⟩, ⟨Below.setCell HB.out HGB.out.1 _⟩⟩
theorem aug_at {a b : Mat} {i : Nat} (h : a.length = b.length) (hi : i < a.length) : (aug a b).getD i [] = a.getD i [] ++ b.getD i [] := by
  unfold aug
  simp only [List.getD_eq_getElem?_getD, List.getElem?_zipWith, List.getElem?_eq_getElem hi, List.getElem?_eq_getElem (show i < b.length by omega), Option.getD_some]
theorem app_left {x y : List Int} {c : Nat} (h : c < x.length) : (x ++ y).getD c 0 = x.getD c 0 := by
  rw [List.getD_eq_getElem?_getD, List.getD_eq_getElem?_getD, List.getElem?_append_left h]
theorem app_right {x y : List Int} {c : Nat} : (x ++ y).getD (x.length + c) 0 = y.getD c 0 := by
  rw [List.getD_eq_getElem?_getD, List.getD_eq_getElem?_getD, List.getElem?_append_right (by omega), Nat.add_sub_cancel_left]
theorem rw_app {L M : Nat} {x y : List Int} (hx : Rw L x) (hy : Rw M y) : Rw (L + M) (x ++ y) := by
  refine ⟨by rw [List.length_append, hx.1, hy.1], fun j hj => ?_⟩
  by_cases h : j < L
  · rw [app_left (by rw [hx.1]; exact h)]; exact hx.2 j h
  · have e : j = x.length + (j - L) := by rw [hx.1]; omega
    rw [e, app_right]; exact hy.2 _ (by omega)
theorem rdL_nat (l : Mat) (i : Nat) : PInv.rd_L1 l (i : Int) = l.getD i [] := rfl
set_option maxHeartbeats 8000000 in
set_option maxRecDepth 100000 in
theorem augment.calls (k n La Lb : Nat) (A0 : Option Addr) (c0 : Nat) (a : Mat) (A1 : Option Addr) (c1 : Nat) (b Z : Mat) (w : World) (hrA : Kd.C kr w A0 n a) (hcA : n ≤ c0) (hrB : Kd.C kr w A1 n b) (hcB : n ≤ c1)
    (hSa : Sh n La a) (hSb : Sh n Lb b) (hn : 0 < n) (hn2 : n < 1000000) (hLa : 0 < La) (hLb : 0 < Lb) (hL2 : La + Lb < 1000000) (hz : PInv.spec_Zeros.f k (n : Int) ((La + Lb : Nat) : Int) = some Z) (hZ : Sh n (La + Lb) Z) :
    Calls Tryd.prog 60 #[.slice A0 n c0, .slice A1 n c1] w fun e w' => ∃ g cap, e = .returned (.tuple #[.slice (some ⟨g, 0, none⟩) n cap, .nilIface]) ∧ At w' w.heap.size g n cap (aug a b) ∧ Below w.heap.size w w' := by
  obtain ⟨ad, Aa, ca, rfl, hxa, hla, hia⟩ := PInv.at_L1 hrA 0 (by omega) (by omega)
  obtain ⟨bd, Ab, cb, rfl, hxb, hlb, hib⟩ := PInv.at_L1 hrB 0 (by omega) (by omega)
  have ea : (PInv.rd_L1 a 0).length = La := (hSa.2 0 hn).1
  have eb : (PInv.rd_L1 b 0).length = Lb := (hSb.2 0 hn).1
  rw [ea] at hxa
  rw [eb] at hxb
  have hxa : w.cell? ad = some (.slice Aa La ca) := by simpa [Addr.add] using hxa
  have hxb : w.cell? bd = some (.slice Ab Lb cb) := by simpa [Addr.add] using hxb
  obtain ⟨M, hM⟩ : ∃ M, M = La + Lb := ⟨_, rfl⟩
  have ew : wrap64 ((La : Int) + (Lb : Int)) = (M : Int) := by unfold wrap64; omega
  have ew2 : IntKind.i64.wrap ((La : Int) + (Lb : Int)) = (M : Int) := by rw [i64_w]; exact ew
  rw [← hM] at hz hZ hL2
  have HM := Aside0.mk hM
  clear hM
  have HRA := Aside0.mk hrA
  have HRB := Aside0.mk hrB
  have HSA := Aside0.mk hSa
  have HSB := Aside0.mk hSb
  have HN := Aside0.mk hn
  have HN2 := Aside0.mk hn2
  have HLA := Aside0.mk hLa
  have HLB := Aside0.mk hLb
  have HL2 := Aside0.mk hL2
  have HZ := Aside0.mk hz
  have HS := Aside0.mk hZ
  have HXA := Aside0.mk hxa
  have HXB := Aside0.mk hxb
  have n0 : decide (n ≤ 0) = false := decide_eq_false (by omega)
  have n1 : decide ((n : Int) ≤ 0) = false := decide_eq_false (by omega)
  have n2 : (0 : Int) < (n : Int) := by omega
  clear hrA hrB hcA hcB hSa hSb hn2 hLa hLb hL2 hz hZ hla hlb hia hib ea eb
  go_enter Tryd.func60, Tryd.ntmps60
  go_wp2_with (fail)
  go_region_held_law (fun w' => w'.cell? ad = some (.slice Aa La ca) ∧ w'.cell? bd = some (.slice Ab Lb cb)) (first | exact ⟨hxa, hxb⟩ | go_keep | exact ⟨xa1, xb1⟩) (first
    | (go_simp; go_at_call 63
       (try simp only [ew2])
       refine (PInv.newMatrix.calls k (n : Int) (M : Int) Z _ (by have := HN.out; omega) (by have := HLA.out; have := HM.out; omega) HZ.out).mono ?_
       rintro ex w1 ⟨v1, rfl, hS1, hb1⟩
       have xa1 := pw_cell_below (below_step (below_drew (Below.refl w.heap.size w)) hb1) hxa
       have xb1 := pw_cell_below (below_step (below_drew (Below.refl w.heap.size w)) hb1) hxb))
  obtain ⟨g, cap, rfl, hgb, hgl, hcl⟩ := Kd.S_form hS1 (by rw [HS.out.1]; exact HN.out)
  rw [HS.out.1] at hS1
  have HA : Aside0 (At w1 w.heap.size g n cap Z) := ⟨Kd.S_lower hS1 (below_drew (Below.refl w.heap.size w)).size⟩
  have HB := Aside0.mk (below_step (below_drew (Below.refl w.heap.size w)) hb1)
  simp only [HS.out.1]
  clear hS1 hb1 hgb hgl hcl xa1 xb1 hxa hxb ew ew2
  go_wp2_with (fail)
  go_loopg [36] n (fun kq vc w' => ∃ (r : Nat) (V : Mat), vc = .int .i64 (r : Int) ∧ Aside0 (r + kq = n) ∧ Aside0 (∀ i, i < r → V.getD i [] = a.getD i [] ++ b.getD i []) ∧ Aside0 (Sh n M V) ∧ Aside0 (At w' w.heap.size g n cap V) ∧ Aside0 (Below w.heap.size w w'))
  case atStart => exact ⟨0, Z, rfl, ⟨by omega⟩, ⟨fun i h => absurd h (by omega)⟩, HS, HA, HB⟩
  case round =>
    clear HS HA HB
    obtain ⟨r, V, rfl, HI, HEQ, HS, HA, HB⟩ := hrel
    cases gk with
    | zero =>
      have er : r = n := by have := HI.out; omega
      have b1 : decide ((r : Int) < (n : Int)) = false := decide_eq_false (by omega)
      have b2 : decide (r < n) = false := decide_eq_false (by omega)
      have HER := Aside0.mk er
      clear er
      go_wp2_with (fail)
      go_ret2
      have e : V = aug a b := by
        have hab : a.length = b.length := by rw [HSA.out.1, HSB.out.1]
        refine ext_getD [] (by unfold aug; rw [List.length_zipWith, HS.out.1, HSA.out.1, HSB.out.1, Nat.min_self]) fun j hj => ?_
        rw [HS.out.1] at hj
        rw [HEQ.out j (by rw [HER.out]; exact hj), aug_at hab (by rw [HSA.out.1]; exact hj)]
      rw [← e]
      exact ⟨_, _, rfl, HA.out, HB.out⟩
    | succ k1 =>
      have hr : r < n := by have := HI.out; omega
      have b1 : decide ((r : Int) < (n : Int)) = true := decide_eq_true (by omega)
      have b2 : decide (r < n) = true := decide_eq_true hr
      have b3 : 0 ≤ (r : Int) := by omega
      have b4 : (r : Int) < (n : Int) := by omega
      obtain ⟨ad2, Ar, cr, e1, hxr, hlr, hir⟩ := PInv.at_L1 HRA.out (r : Int) b3 b4
      obtain rfl : ad = ad2 := by injection e1
      rw [Int.toNat_natCast, rdL_nat, (HSA.out.2 r hr).1] at hxr
      rw [rdL_nat, (HSA.out.2 r hr).1] at hir
      obtain ⟨bd2, Br, dr, e2, hyr, hmr, hjr⟩ := PInv.at_L1 HRB.out (r : Int) b3 b4
      obtain rfl : bd = bd2 := by injection e2
      rw [Int.toNat_natCast, rdL_nat, (HSB.out.2 r hr).1] at hyr
      rw [rdL_nat, (HSB.out.2 r hr).1] at hjr
      have hxr1 := pw_cell_below HB.out hxr
      obtain ⟨tg, htg⟩ : ∃ tg, tg = a.getD r [] ++ b.getD r [] := ⟨_, rfl⟩
      have HTG := Aside0.mk htg
      have HTR : Aside0 (Rw M tg) := ⟨by rw [htg, HM.out]; exact rw_app (HSA.out.2 r hr) (HSB.out.2 r hr)⟩
      have HXR := Aside0.mk hxr
      have HYR := Aside0.mk hyr
      have HIR := Aside0.mk hir
      have HJR := Aside0.mk hjr
      have HRL := Aside0.mk hr
      clear e1 e2 hlr hmr htg hr hxr hyr hir hjr
      go_upto_block 2 with (fail)
      clear hxr1
      go_cut [10] (fun _ wc => Aside0 (At wc w.heap.size g n cap (V.set r (mix tg (V.getD r []) La))) ∧ Aside0 (Below w.heap.size w wc))
      case first =>
        go_wp2_with (fail)
        go_loopg [43] La (fun kq vc w' => ∃ (c : Nat), vc = .int .i64 (c : Int) ∧ Aside0 (c + kq = La) ∧ Aside0 (At w' w.heap.size g n cap (V.set r (mix tg (V.getD r []) c))) ∧ Aside0 (Below w.heap.size w w'))
        case atStart => exact ⟨0, rfl, ⟨by omega⟩, ⟨by rw [mix_zero, set_getD _ _ _ (by rw [HS.out.1]; exact HRL.out)]; exact HA.out⟩, HB⟩
        case round =>
          clear HA HB b1 b2
          obtain ⟨c, rfl, HI2, HA, HB⟩ := hrel
          cases gk with
          | zero =>
            have ec : c = La := by have := HI2.out; omega
            have b1 : decide ((c : Int) < (La : Int)) = false := decide_eq_false (by omega)
            have b2 : decide (c < La) = false := decide_eq_false (by omega)
            have HEC := Aside0.mk ec
            clear ec
            go_wp2_with (fail)
            go_meet
            case rel => exact ⟨by rw [← HEC.out]; exact HA, HB⟩
          | succ k2 =>
            have hc : c < La := by have := HI2.out; omega
            have hcM : c < M := by have := HM.out; omega
            have b1 : decide ((c : Int) < (La : Int)) = true := decide_eq_true (by omega)
            have b2 : decide (c < La) = true := decide_eq_true hc
            have b5 : 0 ≤ (c : Int) := by omega
            have b6 : (c : Int) < (La : Int) := by omega
            have b7 : (c : Int) < (M : Int) := by omega
            have b8 : decide ((c : Int) < (M : Int)) = true := decide_eq_true b7
            have b9 : decide (c < M) = true := decide_eq_true hcM
            obtain ⟨ad3, e3, hxc⟩ := Kd.at_int HIR.out (c : Int) b5 b6
            subst e3
            rw [Int.toNat_natCast, show rd (a.getD r []) (c : Int) = (a.getD r []).getD c 0 from rfl] at hxc
            have hrow := HS.out.2 r HRL.out
            have hml : (mix tg (V.getD r []) c).length = M := by rw [mix_len (by rw [HTR.out.1, hrow.1]), hrow.1]
            have hgr : (V.set r (mix tg (V.getD r []) c)).getD r [] = mix tg (V.getD r []) c := by rw [getD_set _ _ _ _ _ (by rw [HS.out.1]; exact HRL.out), if_pos rfl]
            obtain ⟨gr, cr2, hxo, y1, y2, hcr, y3⟩ := HA.out.row HRL.out (by rw [hgr, hml]; omega)
            rw [hgr, hml] at hxo hcr y3
            obtain ⟨hc1, hf1⟩ := hcr c hcM
            have hst := fun m => y3 m c (tg.getD c 0) hcM
            simp only [mix_set (show tg.length = (V.getD r []).length by rw [HTR.out.1, hrow.1]) (show c < (V.getD r []).length by rw [hrow.1]; exact hcM), List.set_set] at hst
            have htc : tg.getD c 0 = (a.getD r []).getD c 0 := by rw [HTG.out, app_left (by rw [(HSA.out.2 r HRL.out).1]; exact hc)]
            simp only [htc] at hst
            obtain ⟨z, hz⟩ : ∃ z, z = (a.getD r []).getD c 0 := ⟨_, rfl⟩
            simp only [← hz] at hxc hst
            have HST := Aside0.mk hst
            have HGB := Aside0.mk y1
            have hxr1 := pw_cell_below HB.out HXR.out
            have hxc1 := pw_cell_below HB.out hxc
            have HKP : Aside0 (∀ u, (wr.setCell ⟨gr, c, none⟩ u).drew.cell? ⟨g, r, none⟩ = some (.slice (some ⟨gr, 0, none⟩) M cr2) ∧ (wr.setCell ⟨gr, c, none⟩ u).drew.cell? (ad.add r) = some (.slice (some ad3) La cr) ∧ (wr.setCell ⟨gr, c, none⟩ u).drew.cell? (ad3.add c) = some (.int .u8 z)) := ⟨fun u => ⟨pw_cell_below (below_drew (Below.refl _ _)) (cell_keep (m := 0) hxo y1.2), pw_cell_below (below_drew1 (Below.setCell HB.out y1.1 u)) HXR.out, pw_cell_below (below_drew1 (Below.setCell HB.out y1.1 u)) hxc⟩⟩
            clear hst y1 y2 y3 hcr hml hgr htc hz hc hcM hrow hxc
            go_wp2_with (fail)
            go_region_held_law (fun w' => w'.cell? ⟨g, r, none⟩ = some (.slice (some ⟨gr, 0, none⟩) M cr2) ∧ w'.cell? (ad.add r) = some (.slice (some ad3) La cr) ∧ w'.cell? (ad3.add c) = some (.int .u8 z)) (first | exact ⟨hxo, hxr1, hxc1⟩ | exact HKP.out _ | go_keep) (fail)
            all_goals
              go_wp2_with (fail)
              go_roundg k2
              case measure => omega
              case rel => exact ⟨c + 1, by rw [nxt (by have := HI2.out; have := HL2.out; have := HM.out; omega)], ⟨by have := HI2.out; omega⟩, ⟨At.drew (HST.out 0)⟩, ⟨below_drew1 (Below.setCell HB.out HGB.out.1 _)⟩⟩
      case rest =>
        clear HA HB
        obtain ⟨HA, HB⟩ := hcut
        have hxa1 := pw_cell_below HB.out HXA.out
        have hxb1 := pw_cell_below HB.out HXB.out
        go_wp2_with (fail)
        clear hxa1 hxb1
        go_loopg [68] Lb (fun kq vc w' => ∃ (c : Nat), vc = .int .i64 (c : Int) ∧ Aside0 (c + kq = Lb) ∧ Aside0 (At w' w.heap.size g n cap (V.set r (mix tg (V.getD r []) (La + c)))) ∧ Aside0 (Below w.heap.size w w'))
        case atStart => exact ⟨0, rfl, ⟨by omega⟩, HA, HB⟩
        case round =>
          clear HA HB b1 b2
          obtain ⟨c, rfl, HI2, HA, HB⟩ := hrel
          cases gk with
          | zero =>
            have ec : c = Lb := by have := HI2.out; omega
            have b1 : decide ((c : Int) < (Lb : Int)) = false := decide_eq_false (by omega)
            have b2 : decide (c < Lb) = false := decide_eq_false (by omega)
            have HEC := Aside0.mk ec
            clear ec
            go_wp2_with (fail)
            go_roundg k1
            case measure => omega
            case rel =>
              have h := HA.out
              rw [mix_full (by rw [HTR.out.1, HEC.out, HM.out]) (by rw [(HS.out.2 r HRL.out).1, HEC.out, HM.out])] at h
              refine ⟨r + 1, V.set r tg, by rw [nxt (by have := HRL.out; have := HN2.out; omega)], ⟨by have := HI.out; omega⟩, ⟨fun i hi => ?_⟩, ⟨sh_set HS.out HRL.out HTR.out⟩, ⟨h⟩, HB⟩
              rw [getD_set _ _ _ _ _ (by rw [HS.out.1]; exact HRL.out)]
              by_cases h2 : r = i
              · rw [if_pos h2, HTG.out, h2]
              · rw [if_neg h2]; exact HEQ.out i (by omega)
          | succ k2 =>
            have hc : c < Lb := by have := HI2.out; omega
            obtain ⟨q, hq⟩ : ∃ q, q = La + c := ⟨_, rfl⟩
            have hcM : q < M := by have := HM.out; omega
            have ew : wrap64 ((La : Int) + (c : Int)) = (q : Int) := by have := HL2.out; unfold wrap64; omega
            have ew2 : IntKind.i64.wrap ((La : Int) + (c : Int)) = (q : Int) := by rw [i64_w]; exact ew
            have b1 : decide ((c : Int) < (Lb : Int)) = true := decide_eq_true (by omega)
            have b2 : decide (c < Lb) = true := decide_eq_true hc
            have b5 : 0 ≤ (c : Int) := by omega
            have b6 : (c : Int) < (Lb : Int) := by omega
            have b7 : (q : Int) < (M : Int) := by omega
            have b8 : decide ((q : Int) < (M : Int)) = true := decide_eq_true b7
            have b9 : decide (q < M) = true := decide_eq_true hcM
            have b10 : 0 ≤ (q : Int) := by omega
            obtain ⟨bd3, e3, hxc⟩ := Kd.at_int HJR.out (c : Int) b5 b6
            subst e3
            rw [Int.toNat_natCast, show rd (b.getD r []) (c : Int) = (b.getD r []).getD c 0 from rfl] at hxc
            have hrow := HS.out.2 r HRL.out
            simp only [← hq] at HA
            have hml : (mix tg (V.getD r []) q).length = M := by rw [mix_len (by rw [HTR.out.1, hrow.1]), hrow.1]
            have hgr : (V.set r (mix tg (V.getD r []) q)).getD r [] = mix tg (V.getD r []) q := by rw [getD_set _ _ _ _ _ (by rw [HS.out.1]; exact HRL.out), if_pos rfl]
            obtain ⟨gr, cr2, hxo, y1, y2, hcr, y3⟩ := HA.out.row HRL.out (by rw [hgr, hml]; omega)
            rw [hgr, hml] at hxo hcr y3
            obtain ⟨hc1, hf1⟩ := hcr q hcM
            have hst := fun m => y3 m q (tg.getD q 0) hcM
            simp only [mix_set (show tg.length = (V.getD r []).length by rw [HTR.out.1, hrow.1]) (show q < (V.getD r []).length by rw [hrow.1]; exact hcM), List.set_set] at hst
            have htc : tg.getD q 0 = (b.getD r []).getD c 0 := by rw [HTG.out, hq, ← (HSA.out.2 r HRL.out).1, app_right]
            simp only [htc] at hst
            obtain ⟨z, hz⟩ : ∃ z, z = (b.getD r []).getD c 0 := ⟨_, rfl⟩
            simp only [← hz] at hxc hst
            have HST := Aside0.mk hst
            have HGB := Aside0.mk y1
            have HQ := Aside0.mk hq
            have hxr1 := pw_cell_below HB.out HYR.out
            have hxc1 := pw_cell_below HB.out hxc
            have HKP : Aside0 (∀ u, (wr.setCell ⟨gr, q, none⟩ u).drew.cell? ⟨g, r, none⟩ = some (.slice (some ⟨gr, 0, none⟩) M cr2) ∧ (wr.setCell ⟨gr, q, none⟩ u).drew.cell? (bd.add r) = some (.slice (some bd3) Lb dr) ∧ (wr.setCell ⟨gr, q, none⟩ u).drew.cell? (bd3.add c) = some (.int .u8 z)) := ⟨fun u => ⟨pw_cell_below (below_drew (Below.refl _ _)) (cell_keep (m := 0) hxo y1.2), pw_cell_below (below_drew1 (Below.setCell HB.out y1.1 u)) HYR.out, pw_cell_below (below_drew1 (Below.setCell HB.out y1.1 u)) hxc⟩⟩
            clear hst y1 y2 y3 hcr hml hgr htc hz hc hcM hrow hxc hq
            go_wp2_with (fail)
            go_region_held_law (fun w' => w'.cell? ⟨g, r, none⟩ = some (.slice (some ⟨gr, 0, none⟩) M cr2) ∧ w'.cell? (bd.add r) = some (.slice (some bd3) Lb dr) ∧ w'.cell? (bd3.add c) = some (.int .u8 z)) (first | exact ⟨hxo, hxr1, hxc1⟩ | exact HKP.out _ | go_keep) (fail)
            all_goals
              go_wp2_with (fail)
              go_roundg k2
              case measure => omega
              case rel => exact ⟨c + 1, by rw [nxt (by have := HI2.out; have := HL2.out; have := HM.out; omega)], ⟨by have := HI2.out; omega⟩, ⟨by rw [show La + (c + 1) = q + 1 by have := HQ.out; omega]; exact At.drew (HST.out 0)⟩, ⟨below_drew1 (Below.setCell HB.out HGB.out.1 _)⟩⟩
end Go.Proofs.YtladpdeneiaaeaaDoor.Inv
