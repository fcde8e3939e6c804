-- Written by a program of this session (wip/tools)
import Derived.Test.YtielnphmcaecdaaDoorQTTExtTreeB
import Derived.Test.YtielnphmcaecdaaDoorQTTExtRangeA3
import Derived.Test.YtielnphmcaecdaaDoorQTTPAllx2
import Derived.Test.YtielnphmcaecdaaDoorQTTPAllx6
import Derived.Test.YtielnphmcaecdaaDoorQTTNds
import Derived.Test.YtielnphmcaecdaaDoorQTTExtRangeN
set_option maxHeartbeats 8000000
set_option maxRecDepth 100000
set_option linter.unusedVariables false
set_option linter.unusedSimpArgs false
namespace Go.Proofs.YtielnphmcaecdaaDoor.PAll
open Go.RowKit Go.Proofs.YtielnphmcaecdaaDoorW.PrintWords Go.Proofs.YtielnphmcaecdaaDoorW.PrintLast Go.Proofs.YtielnphmcaecdaaDoorW.PrintMore
theorem seen62.calls (lv ix : Int) (A : Option Addr) (c : Nat) (b : List Int) (tb q : Nat) (SV : Value) (vs : List S51) (w : World) (hb : tb ≤ w.heap.size) (hq : w.heap[q]? = some (.cells #[SV] 36 (0, 0))) (hS : Kd.S k51 51 w tb (fun _ => True) SV vs)
 (hC : Kd.C (Kd.int .u8) w A b.length b) (hc : b.length ≤ c) (hl : vs.length < 1099511627776) (hbl : b.length ≤ 140737488355328) :
 Calls Tryd.prog 62 #[.agg #[.int .u64 lv, .int .u64 ix], .slice A b.length c, .pointer (some ⟨q, 0, none⟩)] w fun e w' => e = .returned (.tuple #[]) ∧ ∃ SV', w'.heap[q]? = some (.cells #[SV'] 36 (0, 0)) ∧ Kd.S k51 51 w' tb (fun _ => True) SV' (vs ++ [⟨⟨lv, ix⟩, b⟩]) ∧ (∀ B, B ≤ tb → B ≤ q → Below B w w') ∧ Vs q w w' := by
 have HB := Aside0.mk (below_alloc (Below.refl w.heap.size w) (Obj.cells #[Value.int IntKind.u64 lv, Value.int IntKind.u64 ix] 99))
 have hbk := blk_new w (Obj.cells #[Value.int IntKind.u64 lv, Value.int IntKind.u64 ix] 99)
 have HQ := Aside0.mk hq
 have HS := Aside0.mk hS
 have HC := Aside0.mk hC
 have HCC := Aside0.mk hc
 have HL := Aside0.mk hl
 have HBL := Aside0.mk hbl
 have HTB := Aside0.mk hb
 have hqlt := blk_lt hq
 clear hq hS hC hc hl hbl hb
 go_enter Tryd.func62, Tryd.ntmps62
 go_wp2_with (fail)
 generalize w.alloc (Obj.cells #[Value.int IntKind.u64 lv, Value.int IntKind.u64 ix] 99) = W0 at HB hbk ⊢
 have HQ0 := Aside0.mk (blk_below HQ.out HB.out)
 have HS0 := Aside0.mk (Kd.S_mono (ok' := fun k => k < W0.heap.size) (Kd.S_bound (Kd.S_below HS.out HB.out)) (fun k hk => hk.2.2.1))
 have HC0 := Aside0.mk (Kd.C_below HC.out HB.out)
 have HBK := Aside0.mk hbk
 have y0 : W0.cell? ⟨q, 0, none⟩ = some SV := blk_cell HQ0.out 0
 have y1 : W0.cell? ⟨w.heap.size, 0, none⟩ = some (.int .u64 lv) := blk_cell hbk 0
 have y2 : W0.cell? ⟨w.heap.size, 1, none⟩ = some (.int .u64 ix) := blk_cell hbk 1
 have HQL := Aside0.mk (show q < W0.heap.size from Nat.lt_of_lt_of_le hqlt HB.out.size)
 have HWL := Aside0.mk (show w.heap.size < W0.heap.size from blk_lt hbk)
 have HBn := Aside0.mk (Below.refl W0.heap.size W0)
 have hqw : q ≠ w.heap.size := Nat.ne_of_lt hqlt
 have hqw' : w.heap.size ≠ q := Nat.ne_of_gt hqlt
 clear hbk hqlt
 have z0 : ∀ o, (W0.alloc o).cell? ⟨q, 0, none⟩ = some SV := fun o => (World.cell?_alloc_lt _ _ _ HQL.out).trans y0
 have z1 : ∀ o, (W0.alloc o).cell? ⟨w.heap.size, 0, none⟩ = some (.int .u64 lv) := fun o => (World.cell?_alloc_lt _ _ _ HWL.out).trans y1
 have z2 : ∀ o, (W0.alloc o).cell? ⟨w.heap.size, 1, none⟩ = some (.int .u64 ix) := fun o => (World.cell?_alloc_lt _ _ _ HWL.out).trans y2
 go_region_law (first
  | (
   go_simp
   go_at_call 54
   refine (impl_fromNode.calls lv ix lv ix _ rfl).mono ?_
   rintro e wq ⟨rfl, hB⟩
   have hB1 : Below W0.heap.size W0 wq := below_step (by repeat (first | exact HBn.out | exact Below.refl _ _ | (refine below_alloc ?_ _) | apply Below.drew | apply pw_below_drewN | apply below_drew)) hB
   try have H8 := Aside0.mk (Kd.R_below (Kd.R_drew (lit_R _ (below_size (by repeat (first | exact HBn.out | exact Below.refl _ _ | (refine below_alloc ?_ _) | apply Below.drew | apply pw_below_drewN | apply below_drew))))) hB)
   try have H8 := Aside0.mk (Kd.R_below (lit_R _ (below_size (by repeat (first | exact HBn.out | exact Below.refl _ _ | (refine below_alloc ?_ _) | apply Below.drew | apply pw_below_drewN | apply below_drew)))) hB)
   try have H10 := Aside0.mk (Kd.R_below H10.out (below_step (by repeat (first | exact Below.refl _ _ | apply Below.drew | apply below_drew)) hB))
   have HBn := Aside0.mk hB1
   have v0_ := (HBn.out.cell (p := ⟨q, 0, none⟩) HQL.out).trans y0
   have z0_ : ∀ o, (wq.alloc o).cell? ⟨q, 0, none⟩ = some SV := fun o => (World.cell?_alloc_lt _ _ _ (Nat.lt_of_lt_of_le HQL.out HBn.out.size)).trans v0_
   clear hB hB1)
  | (
   refine Kd.R_append_rows_step (Kd.int .u8) (w0 := W0) W0.heap.size ?hw (.tmp 8) (.tmp 9) 27 5 (.int .u8 0) 1 rfl Tryd.underlying27 info5 rfl (by decide) (by omega) _ [] b A b.length c (fun k => W0.heap.size ≤ k) (fun _ => False) rfl rfl ?aO ?aR (fun _ _ h => h) (fun _ h => h.elim) ?aF ?hB ?hbase ?aL ?_
   (case hw => simp [Region.wanted])
   (case aO => repeat (first | exact H8.out | exact lit_R _ (below_size (by repeat (first | exact HBn.out | exact Below.refl _ _ | (refine below_alloc ?_ _) | apply Below.drew | apply pw_below_drewN | apply below_drew))) | (refine Kd.R_drewN ?_ _) | (refine Kd.R_drew ?_)))
   (case aR => exact Kd.C_below HC0.out (by repeat (first | exact HBn.out | exact Below.refl _ _ | (refine below_alloc ?_ _) | apply Below.drew | apply pw_below_drewN | apply below_drew)))
   (case aF => exact fun k hk => Nat.le_trans (below_size (by repeat (first | exact HBn.out | exact Below.refl _ _ | (refine below_alloc ?_ _) | apply Below.drew | apply pw_below_drewN | apply below_drew))) hk)
   (case hB => exact (by repeat (first | exact HBn.out | exact Below.refl _ _ | (refine below_alloc ?_ _) | apply Below.drew | apply pw_below_drewN | apply below_drew)))
   (case hbase => exact below_size (by repeat (first | exact HBn.out | exact Below.refl _ _ | (refine below_alloc ?_ _) | apply Below.drew | apply pw_below_drewN | apply below_drew)))
   (case aL => have := HBL.out; simp; omega)
   intro v10 wq ho hB hg hat
   have H10 := Aside0.mk (show Kd.R (Kd.int .u8) 5 wq W0.heap.size (fun k => W0.heap.size ≤ k) v10 b from ho)
   obtain ⟨A10, c10, rfl⟩ := Kd.R_slice H10.out
   have HBn := Aside0.mk hB
   have v0_ := (HBn.out.cell (p := ⟨q, 0, none⟩) HQL.out).trans y0
   have z0_ : ∀ o, (wq.alloc o).cell? ⟨q, 0, none⟩ = some SV := fun o => (World.cell?_alloc_lt _ _ _ (Nat.lt_of_lt_of_le HQL.out HBn.out.size)).trans v0_
   clear ho hB hg hat)
  | (
   refine Kd.S_append_step k51 (w0 := W0) tb ?hw (.tmp 5) (.tmp 12) 36 51 (.agg #[(.int .u64 0), (.int .u64 0), (.slice none 0 0)]) 40 rfl Tryd.underlying36 info51 rfl (by decide) (by omega) SV vs ⟨⟨lv, ix⟩, b⟩ [.int .u64 lv, .int .u64 ix, .slice A10 b.length c10] (fun _ => True) (fun k => W0.heap.size ≤ k) rfl rfl ?hp ?hok (fun _ _ => trivial) ?HO ?hB ?hbase ?aL ?_
   (case hw => simp [Region.wanted])
   (case hp => exact k51_mkM _ tb _ ⟨⟨lv, ix⟩, b⟩ (Kd.R_lower (by repeat (first | exact H10.out | (refine Kd.R_alloc ?_ _) | (refine Kd.R_drewN ?_ _) | (refine Kd.R_drew ?_))) (Nat.le_trans HTB.out HB.out.size)))
   (case hok => exact fun k hk => ⟨trivial, fun e => absurd (Kd.S_lt HS0.out k e.symm) (Nat.not_lt_of_le hk)⟩)
   (case HO => exact Kd.S_mono (Kd.S_step HS0.out (fun k hk _ => (show Below W0.heap.size W0 _ from (by repeat (first | exact HBn.out | exact Below.refl _ _ | (refine below_alloc ?_ _) | apply Below.drew | apply pw_below_drewN | apply below_drew))).block k hk)) (fun k hk => ⟨trivial, Nat.not_le_of_lt hk⟩))
   (case hB => exact (show Below W0.heap.size W0 _ from (by repeat (first | exact HBn.out | exact Below.refl _ _ | (refine below_alloc ?_ _) | apply Below.drew | apply pw_below_drewN | apply below_drew))).mono (Nat.le_trans HTB.out HB.out.size))
   (case hbase => exact Nat.le_trans (Nat.le_trans HTB.out HB.out.size) (below_size (show Below W0.heap.size W0 _ from (by repeat (first | exact HBn.out | exact Below.refl _ _ | (refine below_alloc ?_ _) | apply Below.drew | apply pw_below_drewN | apply below_drew)))))
   (case aL => have := HL.out; omega)
   intro v13 wq hS13 hB13 hg13 hat
   have HQ13 := Aside0.mk (show wq.heap[q]? = some (.cells #[SV] 36 (0, 0)) from by
    obtain ⟨hS, hH⟩ := (⟨hS13, hg13⟩ : _ ∧ _)
    exact (hH.block q (Nat.lt_of_lt_of_le HQL.out (below_size (show Below W0.heap.size W0 _ from (by repeat (first | exact HBn.out | exact Below.refl _ _ | (refine below_alloc ?_ _) | apply Below.drew | apply pw_below_drewN | apply below_drew))))) (fun e => blk_ne HQ0.out (Kd.S_typed HS0.out q e.symm).choose_spec (by decide) rfl)).trans (((show Below W0.heap.size W0 _ from (by repeat (first | exact HBn.out | exact Below.refl _ _ | (refine below_alloc ?_ _) | apply Below.drew | apply pw_below_drewN | apply below_drew))).block q HQL.out).trans HQ0.out))
   have HK13 := Aside0.mk (show ∀ k, k < W0.heap.size → some k ≠ SV.ownBlock → wq.heap[k]? = W0.heap[k]? from fun k hk hne => (hg13.block k (Nat.lt_of_lt_of_le hk (below_size (show Below W0.heap.size W0 _ from (by repeat (first | exact HBn.out | exact Below.refl _ _ | (refine below_alloc ?_ _) | apply Below.drew | apply pw_below_drewN | apply below_drew))))) hne).trans ((show Below W0.heap.size W0 _ from (by repeat (first | exact HBn.out | exact Below.refl _ _ | (refine below_alloc ?_ _) | apply Below.drew | apply pw_below_drewN | apply below_drew))).block k hk))
   have HS13 := Aside0.mk hS13
   have HB13 := Aside0.mk hB13
   have v0_ : wq.cell? ⟨q, 0, none⟩ = some SV := blk_cell HQ13.out 0
   obtain ⟨A13, c13, rfl⟩ := Kd.S_slice HS13.out
   have f0_ : wq.frozen? ⟨q, 0, none⟩ = false := blk_frozen HQ13.out 0
   clear hS13 hB13 hg13 hat)
  | fail)
 all_goals
  go_wp2
  go_end0
  exact ⟨rfl, seen_end HTB.out HB.out HS0.out HQ13.out HK13.out HB13.out (by have := HS13.out; rw [List.length_append] at this; exact this)⟩
end Go.Proofs.YtielnphmcaecdaaDoor.PAll
namespace Go.Proofs.YtielnphmcaecdaaDoor.PAll
open Go.IntWalk Go.RowKit Go.Proofs.YtielnphmcaecdaaDoorW.PrintWords Go.Proofs.YtielnphmcaecdaaDoorW.PrintLast Go.Proofs.YtielnphmcaecdaaDoorW.PrintMore
theorem wprev {j : Nat} (h : j < 1099511627776) : wrap64 ((j : Int) - 1) = (j : Int) - 1 := by unfold wrap64; omega
def visR (lv : Nat → Nat) (ix : Nat → Int) (s : Nat → List Int) (m : Nat) : List S51 := (List.range m).map fun i => ⟨⟨((lv i + 1 : Nat) : Int), ix i⟩, s (i + 1)⟩
theorem visR_succ (lv : Nat → Nat) (ix : Nat → Int) (s : Nat → List Int) (m : Nat) : visR lv ix s (m + 1) = visR lv ix s m ++ [⟨⟨((lv m + 1 : Nat) : Int), ix m⟩, s (m + 1)⟩] := by
 unfold visR
 rw [List.range_succ, List.map_append]; rfl
theorem getRoot.calls (k : Nat) (a0 a1 a2 a3 a4 a5 : Int) (tb p fq q : Nat) (e : Int) (M : Nat) (A : Option Addr) (c : Nat) (ss : List SH) (xs : List (List Int)) (SV : Value) (vs : List S51) (z : Nat → Int) (lv : Nat → Nat) (s : Nat → List Int) (w : World)
 (h1 : 1 ≤ tb) (h1q : 1 ≤ q) (hG : Glob w) (htb : tb ≤ w.heap.size) (R : RgAt w tb p fq a0 a1 a2 a3 a4 a5 0 e A c ss xs) (hq : w.heap[q]? = some (.cells #[SV] 36 (0, 0))) (hS : Kd.S k51 51 w tb (fun _ => True) SV vs)
 (hM : xs.length = M + 1) (hn : M < 1099511627776) (hvs : vs.length + M < 1099511627776)
 (hz0 : z 0 = e) (hz : ∀ i, i < M → z (i + 1) = Go.bits .and .u64 (z i) (IntKind.u64.wrap (z i - 1))) (hlv : ∀ i, i < M → bits_TrailingZeros64.f (z (i + 1)) = some (lv i : Int)) (hl64 : ∀ i, i < M → lv i ≤ 64)
 (hs0 : xs.getD M [] = s 0) (hs : ∀ i, i < M → impl_toy_HashChildren.f k a0 a1 a2 a3 a4 a5 (xs.getD (M - 1 - i) []) (s i) = some (s (i + 1))) (hsl : ∀ i, i ≤ M → (s i).length ≤ 140737488355328) :
 Calls Tryd.prog 61 #[.pointer (some ⟨p, 0, none⟩), .func (.func 62) #[] #[.pointer (some ⟨q, 0, none⟩)]] w fun ex w' => ∃ A' c' SV', ex = .returned (.tuple #[.slice A' (s M).length c', .nilIface]) ∧ Txt tb w' (A', (s M).length, c') (s M) ∧ w'.heap[q]? = some (.cells #[SV'] 36 (0, 0)) ∧ Kd.S k51 51 w' tb (fun _ => True) SV' (vs ++ visR lv (fun i => z (i + 1) / 2 ^ min (lv i + 1) 64) s M) ∧ Vs q w w' ∧ (∀ B, B ≤ tb → B ≤ q → Below B w w') := by
 have hln := R.len
 have H1 := Aside0.mk h1
 have H1Q := Aside0.mk h1q
 have HG := Aside0.mk hG
 have HTB := Aside0.mk htb
 have HR := Aside0.mk R
 have HQ := Aside0.mk hq
 have HV := Aside0.mk hS
 have HM := Aside0.mk hM
 have HN := Aside0.mk hn
 have HVS := Aside0.mk hvs
 have HZ0 := Aside0.mk hz0
 have HZ := Aside0.mk hz
 have HLV := Aside0.mk hlv
 have HL64 := Aside0.mk hl64
 have HS := Aside0.mk hs
 have HSL := Aside0.mk hsl
 obtain ⟨g0, cc, e0, hg0⟩ := kSH_form (s := (A, ss.length, c)) R.row (by omega)
 simp only [Prod.mk.injEq] at e0
 obtain ⟨rfl, -, rfl⟩ := e0
 obtain ⟨⟨A0, n0, c0⟩, hs1⟩ : ∃ s, ss[M]? = some s := ⟨_, List.getElem?_eq_getElem (by omega)⟩
 have hx1 : xs[M]? = some (s 0) := by rw [← hs0, List.getD_eq_getElem?_getD, List.getElem?_eq_getElem (by omega)]; rfl
 have HT0 := Aside0.mk (R.txt M _ _ hs1 hx1)
 have x1 : w.cell? ⟨g0, M, none⟩ = some (.slice A0 n0 c0) := (kSH_cell R.row hs1).1
 obtain ⟨L, hL⟩ : ∃ L, ss.length = L := ⟨_, rfl⟩
 have hLM : (L : Int) = (M : Int) + 1 := by omega
 have hLM2 : L = M + 1 := by omega
 have y1 : w.cell? ⟨p, 1, none⟩ = some (.int .u64 0) := blk_cell R.cell 1
 have y2 : w.cell? ⟨p, 2, none⟩ = some (.int .u64 e) := blk_cell R.cell 2
 have y3 : w.cell? ⟨p, 3, none⟩ = some (.slice (some ⟨g0, 0, none⟩) L c) := by rw [← hL]; exact blk_cell R.cell 3
 have d0 : ((L : Int) == 0) = false := beq_eq_false_iff_ne.mpr (by omega)
 have d1 : wrap64 ((L : Int) - 1) = (M : Int) := by have := hn; unfold wrap64; omega
 have d2 : 0 ≤ (M : Int) := by omega
 have d3 : (M : Int) < (L : Int) := by omega
 have d4 : decide ((M : Int) < (L : Int)) = true := decide_eq_true d3
 have d5 : decide (M < L) = true := decide_eq_true (by omega)
 have d6 : wrap64 ((L : Int) - 2) = (M : Int) - 1 := by have := hn; unfold wrap64; omega
 have HL := Aside0.mk hL
 have HLM := Aside0.mk hLM2
 clear h1 h1q hG htb R hq hS hM hn hvs hz0 hz hlv hl64 hs hsl hs0 hg0 hs1 hx1 hL hLM hLM2 hln
 go_enter Tryd.func61, Tryd.ntmps61
 go_wp2_with (fail)
 go_region_held_law (fun w' => w'.cell? ⟨p, 2, none⟩ = some (.int .u64 e)) (first | exact y2 | go_keep) (fail)
 go_wp2_with (fail)
 try simp only [Act.put, List.setIfInBounds_toArray, List.set_cons_zero, List.set_cons_succ]
 have hbd : Below w.heap.size w w.drew := below_drew (Below.refl _ _)
 have HR1 := Aside0.mk (HR.out.below hbd)
 have HS1 := Aside0.mk (HT0.out.pres (Pres5.below hbd))
 have HQ1 := Aside0.mk (blk_below HQ.out hbd)
 have HV1 := Aside0.mk (Kd.S_below HV.out hbd)
 have HVs := Aside0.mk (Vs.of (q := q) hbd)
 have HBB := Aside0.mk (show ∀ B, B ≤ tb → B ≤ q → Below B w w.drew from fun B h _ => hbd.mono (Nat.le_trans h HTB.out))
 generalize w.drew = W at hbd HR1 HS1 HQ1 HV1 HVs HBB ⊢
 clear y1 y2 y3 x1 d0 d1 d2 d3 d4 d5 hbd HT0
 rw [← HZ0.out]
 go_loopg [7, 8, 9] M (fun kq v7 v8 v9 w' => ∃ (i : Nat) (sh : SH) (SV' : Value), v7 = .slice sh.1 sh.2.1 sh.2.2 ∧ v8 = .int .i64 ((kq : Int) - 1) ∧ v9 = .int .u64 (z i) ∧ Aside0 (i + kq = M) ∧ Aside0 (Txt tb w' sh (s i)) ∧ Aside0 (w'.heap[q]? = some (.cells #[SV'] 36 (0, 0))) ∧ Aside0 (Kd.S k51 51 w' tb (fun _ => True) SV' (vs ++ visR lv (fun i => z (i + 1) / 2 ^ min (lv i + 1) 64) s i)) ∧ Aside0 (RgAt w' tb p fq a0 a1 a2 a3 a4 a5 0 e (some ⟨g0, 0, none⟩) c ss xs) ∧ Aside0 (Vs q w w') ∧ Aside0 (∀ B, B ≤ tb → B ≤ q → Below B w w'))
 case atStart => exact ⟨0, (A0, n0, c0), SV, rfl, by first | rw [d6] | rw [i64_w, d6], rfl, ⟨by omega⟩, HS1, HQ1, ⟨by rw [show visR lv (fun i => z (i + 1) / 2 ^ min (lv i + 1) 64) s 0 = [] from rfl, List.append_nil]; exact HV1.out⟩, HR1, HVs, HBB⟩
 case round =>
  clear HR1 HS1 HQ1 HV1 HVs HBB d6
  obtain ⟨i, ⟨A1, n1, c1⟩, SV1, rfl, rfl, rfl, HI, HS1, HQ1, HV1, HR1, HVs, HBB⟩ := hrel
  cases gk with
  | zero =>
   have ei : i = M := by have := HI.out; omega
   subst ei
   obtain ⟨rfl, ht2, ht3⟩ := HS1.out.read
   clear ht2 ht3
   go_wp2
   go_ret2
   exact ⟨A1, c1, SV1, rfl, HS1.out, HQ1.out, HV1.out, HVs.out, HBB.out⟩
  | succ j =>
   have hi : i < M := by have := HI.out; omega
   have hji : j = M - 1 - i := by have := HI.out; omega
   have hL := HL.out
   have hLM := HLM.out
   have hln : ss.length = xs.length := HR1.out.len
   obtain ⟨⟨Am, nm, cm⟩, hsm⟩ : ∃ s, ss[j]? = some s := ⟨_, List.getElem?_eq_getElem (by omega)⟩
   obtain ⟨xm, hxm⟩ : ∃ x, xs[j]? = some x := ⟨_, List.getElem?_eq_getElem (by omega)⟩
   have x1 : wr.cell? ⟨g0, j, none⟩ = some (.slice Am nm cm) := (kSH_cell HR1.out.row hsm).1
   obtain ⟨rfl, hy2, hy3⟩ := (HR1.out.txt j _ _ hsm hxm).read
   obtain ⟨rfl, hx2, hx3⟩ := HS1.out.read
   have hcall := HS.out i hi
   rw [← hji, List.getD_eq_getElem?_getD, hxm, Option.getD_some] at hcall
   have hjL : j < L := by omega
   have d0 : 0 ≤ (j : Int) := by omega
   have d1 : (j : Int) < (L : Int) := by omega
   have d2 : decide ((j : Int) < (L : Int)) = true := decide_eq_true d1
   have d3 : decide (j < L) = true := decide_eq_true hjL
   have d4 : decide ((j : Int) ≥ 0) = true := decide_eq_true d0
   have d5 : decide (0 ≤ (j : Int)) = true := decide_eq_true d0
   have y0 : wr.cell? ⟨p, 0, none⟩ = some (.pointer (some ⟨fq, 0, none⟩)) := blk_cell HR1.out.cell 0
   have y3 : wr.cell? ⟨p, 3, none⟩ = some (.slice (some ⟨g0, 0, none⟩) L c) := by rw [← hL]; exact blk_cell HR1.out.cell 3
   have y4 : wr.cell? ⟨fq, 0, none⟩ = some (.func (.func 50) #[toyV a0 a1 a2 a3 a4 a5] #[]) := blk_cell HR1.out.fac 0
   have HY2 := Aside0.mk hy2
   have HY3 := Aside0.mk hy3
   have HX2 := Aside0.mk hx2
   have HX3 := Aside0.mk hx3
   have HCL := Aside0.mk hcall
   have HII := Aside0.mk hi
   have HL0 := Aside0.mk (show p < wr.heap.size from blk_lt HR1.out.cell)
   have HL1 := Aside0.mk (show fq < wr.heap.size from blk_lt HR1.out.fac)
   have HL2 := Aside0.mk (show g0 < wr.heap.size from World.block_lt_of_cell? _ _ x1)
   clear hy2 hy3 hx2 hx3 hcall hi hsm hxm hln hji hL hLM hjL
   rw [show (((j + 1 : Nat) : Int) - 1) = (j : Int) by omega]
   go_wp2_with (fail)
   go_region_held_law (fun w' => w'.cell? ⟨p, 0, none⟩ = some (.pointer (some ⟨fq, 0, none⟩)) ∧ w'.cell? ⟨p, 3, none⟩ = some (.slice (some ⟨g0, 0, none⟩) L c) ∧ w'.cell? ⟨fq, 0, none⟩ = some (.func (.func 50) #[toyV a0 a1 a2 a3 a4 a5] #[]) ∧ w'.cell? ⟨g0, j, none⟩ = some (.slice Am xm.length cm)) (first | exact ⟨u0, u3, u4, u5⟩ | exact ⟨y0, y3, y4, x1⟩ | go_keep) (first
    | (
     go_simp; go_at_call 50
     refine (impl_toy_HashChildren.calls k a0 a1 a2 a3 a4 a5 Am cm xm A1 c1 (s i) (s (i + 1)) _ ?s1 HY2.out ?s3 HX2.out HCL.out).mono ?_
     (case s1 => repeat (first | exact HY3.out | (refine Kd.C_drewN ?_ _) | (refine Kd.C_drew ?_)))
     (case s3 => repeat (first | exact HX3.out | (refine Kd.C_drewN ?_ _) | (refine Kd.C_drew ?_)))
     rintro ex w4 ⟨v4, rfl, hR4, hb4⟩
     have HB4 := Aside0.mk (show Below wr.heap.size wr w4 from below_step (by repeat (first | exact Below.refl _ _ | apply Below.drew | apply pw_below_drewN | apply below_drew)) hb4)
     have HR4 := Aside0.mk hR4
     have u0 := (HB4.out.cell (p := ⟨p, 0, none⟩) HL0.out).trans y0
     have u3 := (HB4.out.cell (p := ⟨p, 3, none⟩) HL0.out).trans y3
     have u4 := (HB4.out.cell (p := ⟨fq, 0, none⟩) HL1.out).trans y4
     have u5 := (HB4.out.cell (p := ⟨g0, j, none⟩) HL2.out).trans x1
     clear hR4 hb4)
    | fail)
   replace HR1 := Aside0.mk (HR1.out.below HB4.out)
   replace HQ1 := Aside0.mk (blk_below HQ1.out HB4.out)
   replace HV1 := Aside0.mk (Kd.S_below HV1.out HB4.out)
   have hsz : tb ≤ wr.heap.size := Nat.le_trans HTB.out HVs.out.size
   replace HBB := Aside0.mk (show ∀ B, B ≤ tb → B ≤ q → Below B w w4 from fun B h1 h2 => (HBB.out B h1 h2).trans (HB4.out.mono (Nat.le_trans h1 hsz)))
   replace HVs := Aside0.mk (HVs.out.trans (Vs.of HB4.out))
   obtain ⟨⟨A4, n4, c4⟩, e4⟩ := kSH_val' HR4.out
   subst e4
   have HT4 := Aside0.mk (Txt.of_R HR4.out hsz)
   obtain ⟨rfl, ht2, ht3⟩ := HT4.out.read
   have HT2 := Aside0.mk ht2
   have HT3 := Aside0.mk ht3
   clear ht2 ht3 y0 y3 y4 x1 u0 u3 u4 u5 HR4 HB4 HS1 HL0 HL1 HL2 HY2 HY3 HX2 HX3 HCL d0 d1 d2 d3 d4 d5 hsz
   have hnq := fun W => neq_nil 62 q W
   dsimp only [shE]
   go_step
   try simp [Act.put]
   try go_step
   go_wp2_with (fail)
   have hlv := HL64.out i HII.out
   have hw1 : IntKind.u64.wrap ((lv i : Nat) : Int) = ((lv i : Nat) : Int) := Go.Proofs.YtielnphmcaecdaaDoor.Num.u64in (by omega)
   obtain ⟨lm, hlm⟩ : ∃ lm, lm = lv i + 1 := ⟨_, rfl⟩
   have hw2 : IntKind.u64.wrap (((lv i : Nat) : Int) + 1) = (lm : Int) := (congrArg IntKind.u64.wrap (by omega : ((lv i : Nat) : Int) + 1 = (lm : Int))).trans (Go.Proofs.YtielnphmcaecdaaDoor.Num.u64in (by omega))
   have HLM2 := Aside0.mk hlm
   clear hlv hlm
   rw [← HZ.out i HII.out]
   refine (bits_TrailingZeros64.calls (z (i + 1)) (lv i : Int) w4 (HG.out.far (HBB.out 1 H1.out H1Q.out)) (HLV.out i HII.out)).mono ?_
   rintro ex w' ⟨rfl, hd⟩
   obtain ⟨⟨nd, rfl⟩⟩ := hd
   dsimp only
   go_wp2_with (fail)
   refine (newNode.calls _ _ _).mono ?_
   rintro ex w5 ⟨rfl, hb5'⟩
   have hb5 : Below w4.heap.size w4 w5 := below_step (pw_below_drewN (Below.refl _ _) nd) hb5'
   dsimp only
   replace HR1 := Aside0.mk (HR1.out.below hb5)
   replace HQ1 := Aside0.mk (blk_below HQ1.out hb5)
   replace HV1 := Aside0.mk (Kd.S_below HV1.out hb5)
   replace HT4 := Aside0.mk (HT4.out.pres (Pres5.below hb5))
   replace HT3 := Aside0.mk (Kd.C_below HT3.out hb5)
   have hsz : tb ≤ w4.heap.size := Nat.le_trans HTB.out HVs.out.size
   replace HBB := Aside0.mk (show ∀ B, B ≤ tb → B ≤ q → Below B w w5 from fun B h1 h2 => (HBB.out B h1 h2).trans (hb5.mono (Nat.le_trans h1 hsz)))
   replace HVs := Aside0.mk (HVs.out.trans (Vs.of hb5))
   clear hb5 hb5' hsz
   go_wp2_with (fail)
   have hsz : tb ≤ w5.heap.size := Nat.le_trans HTB.out HVs.out.size
   refine (seen62.calls _ _ A4 c4 (s (i + 1)) tb q SV1 _ _ hsz HQ1.out HV1.out HT3.out HT2.out (by have := HVS.out; have := HII.out; rw [List.length_append]; unfold visR; rw [List.length_map, List.length_range]; omega) (HSL.out _ HII.out)).mono ?_
   rintro ex w6 ⟨rfl, SV6, hq6, hS6, hbb6, hvs6⟩
   have HQ6 := Aside0.mk hq6
   have HS6 := Aside0.mk hS6
   have HR6 := Aside0.mk (HR1.out.vs hvs6 HQ1.out)
   have HT6 := Aside0.mk (HT4.out.pres (hvs6.pres HQ1.out))
   have HVs6 := Aside0.mk (HVs.out.trans hvs6)
   have HBB6 := Aside0.mk (show ∀ B, B ≤ tb → B ≤ q → Below B w w6 from fun B h1 h2 => (HBB.out B h1 h2).trans (hbb6 B h1 h2))
   clear hq6 hS6 hbb6 hvs6 hsz HR1 HT4 HVs HBB HQ1 HV1
   dsimp only
   go_wp2
   go_roundg j
   case measure => omega
   case rel =>
    refine ⟨i + 1, (A4, (s (i + 1)).length, c4), SV6, rfl, ?_, rfl, ⟨by have := HI.out; omega⟩, HT6, HQ6, ⟨?_⟩, HR6, HVs6, HBB6⟩
    ·rw [wprev (by have := HI.out; have := HN.out; omega)]
    ·rw [visR_succ, ← List.append_assoc]
     have h := HS6.out
     rw [HLM2.out] at h
     exact h
end Go.Proofs.YtielnphmcaecdaaDoor.PAll
namespace Go.Proofs.YtielnphmcaecdaaDoor.Hsh
open Go.RowKit Go.Proofs.YtielnphmcaecdaaDoor.Num Go.Proofs.YtielnphmcaecdaaDoor.PAll Go.Proofs.YtielnphmcaecdaaDoorW.PrintWords Go.Proofs.YtielnphmcaecdaaDoorW.PrintLast
theorem lift {α : Type} {F : Nat → Option α} (hm : ∀ k, LeO (F k) (F (k + 1))) {k : Nat} {r : α} (h : F k = some r) : ∀ {K : Nat}, k ≤ K → F K = some r := by
 intro K hK
 obtain ⟨d, rfl⟩ := Nat.exists_eq_add_of_le hK
 clear hK
 induction d with
 | zero => exact h
 | succ d ih => exact hm _ _ ih
theorem next64 {i : Nat} (h : i < 9223372036854775807) : wrap64 ((i : Int) + 1) = ((i + 1 : Nat) : Int) := by unfold wrap64; omega
theorem drop_rd1 {l : List Int} {i : Nat} (h : i < l.length) : l.drop i = rd l (i : Int) :: l.drop (i + 1) := by
 rw [List.drop_eq_getElem_cons h]
 congr 1
 show _ = l.getD i 0
 rw [List.getD_eq_getElem?_getD, List.getElem?_eq_getElem h]; rfl
def step (x b : Int) : Int := IntKind.u64.wrap ((Go.bits .xor .u64 x (IntKind.u64.wrap b)) * 1099511628211)
def mix (x : Int) (l : List Int) : Int := l.foldl step x
theorem impl_mixed_loop (l : List Int) (hl : l.length < 9223372036854775807) (d : Nat) : ∀ i x, i + d = l.length →
 impl_mixed.l0 (d + 1) x l (l.length : Int) (i : Int) = some (mix x (l.drop i)) := by
 induction d with
 | zero => intro i x hi; rw [impl_mixed.l0, if_neg (by omega), List.drop_of_length_le (by omega)]; rfl
 | succ d ih =>
  intro i x hi
  rw [impl_mixed.l0, if_pos (by omega), if_pos (by omega), if_pos (by omega), next64 (by omega), ih (i + 1) _ (by omega), drop_rd1 (show i < l.length by omega)]
  rfl
theorem impl_mixed_eq (l : List Int) (x : Int) (hl : l.length < 9223372036854775807) {k : Nat} (hk : l.length < k) : impl_mixed.f k x l = some (mix x l) :=
 lift (fun k => impl_mixed.mono x l k) (impl_mixed_loop l hl l.length 0 x (by omega)) hk
def byt (w : Int) (i : Nat) : Int := shr .u64 w ((8 * i : Nat) : Int) % 256
def wrd (w : Int) : Nat → List Int
 | 0 => []
 | n + 1 => byt w n :: wrd w n
theorem wrd_length (w : Int) : ∀ n, (wrd w n).length = n
 | 0 => rfl
 | n + 1 => by rw [wrd, List.length_cons, wrd_length w n]
theorem eight {i : Nat} (h : i ≤ 8) : wrap64 (8 * (i : Int)) = ((8 * i : Nat) : Int) := by unfold wrap64; omega
theorem set_at (d : Nat) (b : Int) (l : List Int) : (List.replicate (d + 1) 0 ++ l).set d b = List.replicate d 0 ++ (b :: l) := by
 induction d with
 | zero => rfl
 | succ d ih => rw [List.replicate_succ, List.cons_append, List.set_cons_succ, ih, List.replicate_succ, List.cons_append]
theorem impl_word_loop (w : Int) (n : Nat) (hn : n ≤ 8) (d : Nat) : ∀ i, i + d = n →
 impl_word.l0 (d + 1) w (n : Int) (List.replicate d 0 ++ wrd w i) (n : Int) (i : Int) = some (wrd w n) := by
 induction d with
 | zero =>
  intro i hi
  have e : i = n := by omega
  rw [impl_word.l0, if_neg (by omega), e]; rfl
 | succ d ih =>
  intro i hi
  have e1 : wrap64 (wrap64 ((n : Int) - 1) - (i : Int)) = (d : Int) := by unfold wrap64; omega
  rw [impl_word.l0, if_pos (by omega), eight (by omega), if_pos (by omega), e1, if_pos (by omega), if_pos (by rw [List.length_append, List.length_replicate]; omega), next64 (by omega), Int.toNat_natCast, set_at]
  exact ih (i + 1) (by omega)
def nb (a : Int) : Nat := if a < 1 ∨ a > 8 then 8 else a.toNat
theorem nb_le (a : Int) : nb a ≤ 8 := by unfold nb; split <;> omega
theorem impl_word_j1 (w : Int) (n : Nat) (hn : n ≤ 8) (k : Nat) (hk : 10 ≤ k) : impl_word.j1 k w (n : Int) = some (wrd w n) := by
 obtain ⟨k, rfl⟩ : ∃ k', k = k' + 1 := ⟨k - 1, by omega⟩
 rw [impl_word.j1, if_pos (by omega), if_pos (by rw [Int.toNat_natCast]; omega), Option.bind_some, List.length_replicate, Int.toNat_natCast]
 refine lift (F := fun k => impl_word.l0 k w (n : Int) (List.replicate n 0) (n : Int) 0) (fun k => (impl_word.mono_l k).2.2 _ _ _ _ _) (k := n + 1) ?_ (by omega)
 have := impl_word_loop w n hn n 0 (by omega)
 rw [wrd, List.append_nil] at this
 exact this
theorem impl_word_eq (w a : Int) {k : Nat} (hk : 20 ≤ k) : impl_word.f k w a = some (wrd w (nb a)) := by
 obtain ⟨k, rfl⟩ : ∃ k', k = k' + 1 := ⟨k - 1, by omega⟩
 unfold impl_word.f
 by_cases h : a < 1
 ·rw [if_pos h, impl_word.j0, if_pos rfl, show nb a = 8 by unfold nb; rw [if_pos (.inl h)]]
  exact impl_word_j1 w 8 (by omega) k (by omega)
 ·rw [if_neg h, impl_word.j0]
  by_cases h2 : a > 8
  ·rw [if_pos (decide_eq_true h2), show nb a = 8 by unfold nb; rw [if_pos (.inr h2)]]
   exact impl_word_j1 w 8 (by omega) k (by omega)
  ·rw [if_neg (by rw [decide_eq_false h2]; decide)]
   have e : a = ((nb a : Nat) : Int) := by unfold nb; rw [if_neg (by omega)]; omega
   have := impl_word_j1 w (nb a) (nb_le a) k (by omega)
   rw [← e] at this; exact this
def hash (a0 a2 a5 : Int) (l r : List Int) : List Int :=
 if a0 = 1 then wrd (mix (mix (mix a5 l) [255]) r) (nb a2) else [1] ++ wrd (IntKind.u64.wrap (l.length : Int)) 8 ++ l ++ r
theorem hash_le (a0 a2 a5 : Int) (l r : List Int) : (hash a0 a2 a5 l r).length ≤ 9 + l.length + r.length := by
 unfold hash
 have := nb_le a2
 split
 ·rw [wrd_length]; omega
 ·simp only [List.length_append, wrd_length, List.length_singleton]; omega
theorem impl_hash (a0 a1 a2 a3 a4 a5 : Int) (l r : List Int) (hl : l.length ≤ 1000000000000) (hr : r.length ≤ 1000000000000) {k : Nat} (hk : l.length + r.length + 30 ≤ k) :
 impl_toy_HashChildren.f k a0 a1 a2 a3 a4 a5 l r = some (hash a0 a2 a5 l r) := by
 unfold impl_toy_HashChildren.f hash
 by_cases h : a0 = 1
 ·rw [if_pos h, if_pos h, impl_mixed_eq l a5 (by omega) (by omega), Option.bind_some, impl_mixed_eq _ _ (by simp only [List.length_singleton]; omega) (by simp only [List.length_singleton]; omega), Option.bind_some, impl_mixed_eq _ _ (by omega) (by omega), Option.bind_some, impl_word_eq _ _ (by omega), Option.bind_some]
 ·rw [if_neg h, if_neg h, Option.bind_some, impl_word_eq _ _ (by omega), Option.bind_some]
  have e : nb 8 = 8 := by decide
  rw [e, if_pos (by simp only [List.length_singleton, wrd_length]; omega), Option.bind_some, if_pos (by simp only [List.length_append, List.length_singleton, wrd_length]; omega), Option.bind_some, if_pos (by simp only [List.length_append, List.length_singleton, wrd_length]; omega)]
theorem rdL (l : List (List Int)) (i : Nat) : rd_L1 l (i : Int) = l.getD i [] := rfl
theorem take_at {α : Type} (l : List α) (i : Nat) (d : α) (h : i < l.length) : l.take (i + 1) = l.take i ++ [l.getD i d] := by
 rw [List.getD_eq_getElem?_getD, List.getElem?_eq_getElem h, Option.getD_some, List.take_succ_eq_append_getElem h]
theorem fits_loop (l : List (List Int)) (hl : l.length ≤ 2147483647) (d : Nat) : ∀ i, i + d = l.length → (∀ j, j < i → (l.getD j []).length ≤ 2147483647) →
 ∃ z, laws_zzFits2.l0 (d + 1) l (l.length : Int) (i : Int) = some z ∧ (z = true → ∀ j, j < l.length → (l.getD j []).length ≤ 2147483647) := by
 induction d with
 | zero =>
  intro i hi hj
  exact ⟨true, by rw [laws_zzFits2.l0, if_neg (by omega)], fun _ j h => hj j (by omega)⟩
 | succ d ih =>
  intro i hi hj
  rw [laws_zzFits2.l0, if_pos (by omega), if_pos (by omega), if_pos (by omega), rdL]
  by_cases h : ((l.getD i []).length : Int) > 2147483647
  ·rw [if_pos h]; exact ⟨false, rfl, fun h => by cases h⟩
  ·rw [if_neg h, next64 (by omega)]
   exact ih (i + 1) (by omega) (fun j h2 => by
    by_cases e : j = i
    ·subst e; omega
    ·exact hj j (by omega))
theorem fits (l : List (List Int)) : ∃ z k, laws_zzFits2.f k l = some z ∧ (z = true → l.length ≤ 2147483647 ∧ ∀ j, j < l.length → (l.getD j []).length ≤ 2147483647) := by
 by_cases h : (l.length : Int) > 2147483647
 ·exact ⟨false, 0, by unfold laws_zzFits2.f; rw [if_pos h], fun h => by cases h⟩
 ·obtain ⟨z, hz, hb⟩ := fits_loop l (by omega) l.length 0 (by omega) (fun j h => absurd h (by omega))
  exact ⟨z, l.length + 1, by unfold laws_zzFits2.f; rw [if_neg h]; exact hz, fun e => ⟨by omega, hb e⟩⟩
theorem small_loop (l : List (List Int)) (hl : l.length ≤ 2147483647) (d : Nat) : ∀ i, i + d = l.length → (∀ j, j < i → (l.getD j []).length ≤ 5000) →
 ∃ z, laws_logSmall.l0 (d + 1) l l (l.length : Int) (i : Int) = some z ∧ (z = true → l.length ≤ 300 ∧ ∀ j, j < l.length → (l.getD j []).length ≤ 5000) := by
 induction d with
 | zero =>
  intro i hi hj
  exact ⟨decide ((l.length : Int) ≤ 300), by rw [laws_logSmall.l0, if_neg (by omega)], fun h => ⟨by have := of_decide_eq_true h; omega, fun j h => hj j (by omega)⟩⟩
 | succ d ih =>
  intro i hi hj
  rw [laws_logSmall.l0, if_pos (by omega), if_pos (by omega), if_pos (by omega), rdL]
  by_cases h : ((l.getD i []).length : Int) > 5000
  ·rw [if_pos h]; exact ⟨false, rfl, fun h => by cases h⟩
  ·rw [if_neg h, next64 (by omega)]
   exact ih (i + 1) (by omega) (fun j h2 => by
    by_cases e : j = i
    ·subst e; omega
    ·exact hj j (by omega))
theorem small (l : List (List Int)) (hl : l.length ≤ 2147483647) : ∃ z, laws_logSmall.f (l.length + 1) l = some z ∧ (z = true → l.length ≤ 300 ∧ ∀ j, j < l.length → (l.getD j []).length ≤ 5000) :=
 small_loop l hl l.length 0 (by omega) (fun j h => absurd h (by omega))
theorem texts_loop (l : List (List Int)) (hl : l.length ≤ 2147483647) (hb : ∀ j, j < l.length → (l.getD j []).length ≤ 2147483647) (d : Nat) : ∀ i, i + d = l.length →
 impl_texts.l0 (d + 1) (l.take i) l (l.length : Int) (i : Int) = some l := by
 induction d with
 | zero =>
  intro i hi
  rw [impl_texts.l0, if_neg (by omega), List.take_of_length_le (by omega)]
 | succ d ih =>
  intro i hi
  have h1 := hb i (by omega)
  have h2 : (l.take i).length < 5864062014805 := by rw [List.length_take]; omega
  rw [impl_texts.l0, if_pos (by omega), if_pos (by omega), if_pos (by omega), Option.bind_some, if_pos (by rw [rdL]; simp only [List.length_nil]; omega), if_pos h2, next64 (by omega), List.nil_append, rdL, ← take_at l i [] (by omega)]
  exact ih (i + 1) (by omega)
theorem texts_eq (l : List (List Int)) (hl : l.length ≤ 2147483647) (hb : ∀ j, j < l.length → (l.getD j []).length ≤ 2147483647) {k : Nat} (hk : l.length < k) : impl_texts.f k l = some l :=
 lift (fun k => impl_texts.mono l k) (texts_loop l hl hb l.length 0 (by omega)) hk
end Go.Proofs.YtielnphmcaecdaaDoor.Hsh
namespace Go.Proofs.YtielnphmcaecdaaDoor.PAll
open Go.IntWalk Go.RowKit Go.Proofs.YtielnphmcaecdaaDoor.Num Go.Proofs.YtielnphmcaecdaaDoor.Mth Go.Proofs.YtielnphmcaecdaaDoorW.PrintWords Go.Proofs.YtielnphmcaecdaaDoorW.PrintLast Go.Proofs.YtielnphmcaecdaaDoorW.PrintMore
def tzn (E : Nat) : Nat := lev E (2 * E)
theorem and_one_odd (n : Nat) (hn : n < 18446744073709551616) (h : n % 2 = 1) : Go.bits .and .u64 (n : Int) 1 = 1 := by
 have h4 := u64_and_nat n 1 hn (by omega)
 rw [Nat.and_one_is_mod, h] at h4
 exact h4
theorem Fx.blk {p q g t : Nat} {row : Option Nat} {w w' : World} {c : Array Value} (h : Fx p q row w w') (hb : w.heap[g]? = some (.cells c t (0, 0))) (hp : g ≠ p) (hq : g ≠ q) (hr : some g ≠ row) (ht : t ≠ 51) : w'.heap[g]? = some (.cells c t (0, 0)) :=
 (h.block g (blk_lt hb) hp hq hr (fun d hd => by rw [hb] at hd; injection hd with hd; injection hd with _ hd; exact ht hd)).trans hb
theorem Fx.ty {w w' : World} {tb p fq q g t : Nat} {a0 a1 a2 a3 a4 a5 b e : Int} {A : Option Addr} {c : Nat} {ss : List SH} {xs : List (List Int)} {SV cs : Array Value} (h : Fx p q (Value.slice A ss.length c).ownBlock w w') (R : RgAt w tb p fq a0 a1 a2 a3 a4 a5 b e A c ss xs) (hq : w.heap[q]? = some (.cells SV 36 (0, 0)))
 (hb : w.heap[g]? = some (.cells cs t (0, 0))) (h1 : t ≠ 148) (h2 : t ≠ 36) (h3 : t ≠ 27) (h4 : t ≠ 51) : w'.heap[g]? = some (.cells cs t (0, 0)) :=
 h.blk hb (ty_ne hb R.cell h1) (ty_ne hb hq h2) (fun e => by obtain ⟨d, hd⟩ := Kd.R_typed R.row g e.symm; exact ty_ne hb hd h3 rfl) h4
theorem Fx.pres {w w' : World} {tb p fq q : Nat} {a0 a1 a2 a3 a4 a5 b e : Int} {A : Option Addr} {c : Nat} {ss : List SH} {xs : List (List Int)} {SV : Array Value} (h : Fx p q (Value.slice A ss.length c).ownBlock w w') (R : RgAt w tb p fq a0 a1 a2 a3 a4 a5 b e A c ss xs) (hq : w.heap[q]? = some (.cells SV 36 (0, 0))) : Pres5 w w' := fun k hk => by
 obtain ⟨c, hc⟩ := hk
 rw [h.ty R hq hc (by decide) (by decide) (by decide) (by decide), hc]
theorem Fx.rw {w w' : World} {tb p fq q : Nat} {a0 a1 a2 a3 a4 a5 b e : Int} {A : Option Addr} {c : Nat} {ss : List SH} {xs : List (List Int)} {SV : Array Value} {v : Value} {rs : List SH} (h : Fx p q (Value.slice A ss.length c).ownBlock w w') (R : RgAt w tb p fq a0 a1 a2 a3 a4 a5 b e A c ss xs) (hq : w.heap[q]? = some (.cells SV 36 (0, 0))) (hR : Rw w tb v rs) (hap : ∀ k, v.ownBlock = some k → some k ≠ (Value.slice A ss.length c).ownBlock) : Rw w' tb v rs :=
 Kd.R_mono (Kd.R_step (Kd.R_tight rfl hR) (fun k hk hlt => by
  obtain ⟨d, hd⟩ := Kd.R_typed hR k hk.symm
  rw [h.blk hd (ty_ne hd R.cell (by decide)) (ty_ne hd hq (by decide)) (hap k hk.symm) (by decide), hd])) (fun _ _ => trivial)
theorem four (w : World) (o0 o1 o2 o3 : Obj) : ((((w.alloc o0).alloc o1).alloc o2).alloc o3).heap[w.heap.size + 1]? = some o1 ∧ ((((w.alloc o0).alloc o1).alloc o2).alloc o3).heap[w.heap.size + 1 + 1]? = some o2 ∧ ((((w.alloc o0).alloc o1).alloc o2).alloc o3).heap[w.heap.size + 1 + 1 + 1]? = some o3 ∧ Below w.heap.size w ((((w.alloc o0).alloc o1).alloc o2).alloc o3) := by
 have s1 : (w.alloc o0).heap.size = w.heap.size + 1 := World.size_alloc _ _
 have s2 : ((w.alloc o0).alloc o1).heap.size = w.heap.size + 1 + 1 := by rw [World.size_alloc, s1]
 have s3 : (((w.alloc o0).alloc o1).alloc o2).heap.size = w.heap.size + 1 + 1 + 1 := by rw [World.size_alloc, s2]
 have b1 := blk_new (w.alloc o0) o1
 have b2 := blk_new ((w.alloc o0).alloc o1) o2
 have b3 := blk_new (((w.alloc o0).alloc o1).alloc o2) o3
 rw [s1] at b1
 rw [s2] at b2
 rw [s3] at b3
 exact ⟨blk_alloc (blk_alloc b1 _) _, blk_alloc b2 _, b3, below_alloc (below_alloc (below_alloc (below_alloc (Below.refl _ _) _) _) _) _⟩
def onesB (m low : Nat) : Nat → Nat
 | 0 => 0
 | t + 1 => onesB m low t + m / 2 ^ (low + t) % 2
theorem onesB_le (m low : Nat) : ∀ t, onesB m low t ≤ t
 | 0 => Nat.le_refl _
 | t + 1 => by have := onesB_le m low t; rw [onesB]; omega
def gseed (F : List Int → List Int → Option (List Int)) (m low : Nat) (xs ys : List (List Int)) (x : List Int) : Nat → Option (List Int)
 | 0 => some x
 | t + 1 => (gseed F m low xs ys x t).bind fun s => if m / 2 ^ (low + t) % 2 = 1 then F (xs.getD (xs.length - 1 - onesB m low t) []) s else F s (ys.getD (t - onesB m low t) [])
theorem gseed_some {F : List Int → List Int → Option (List Int)} {m low : Nat} {xs ys : List (List Int)} {x : List Int} : ∀ (T : Nat) (r : List Int), gseed F m low xs ys x T = some r → ∀ t, t ≤ T → ∃ s, gseed F m low xs ys x t = some s
 | 0, r, h, t, ht => by
  obtain rfl : t = 0 := by omega
  exact ⟨r, h⟩
 | T + 1, r, h, t, ht => by
  by_cases e : t = T + 1
  ·subst e; exact ⟨r, h⟩
  ·rw [gseed] at h
   obtain ⟨s, hs, _⟩ := Option.bind_eq_some_iff.mp h
   exact gseed_some T s hs t (by omega)
def gsOf (F : List Int → List Int → Option (List Int)) (m low : Nat) (xs ys : List (List Int)) (x : List Int) (t : Nat) : List Int := (gseed F m low xs ys x t).getD []
theorem gseed_of {F : List Int → List Int → Option (List Int)} {m low : Nat} {xs ys : List (List Int)} {x : List Int} {T : Nat} {r : List Int} (h : gseed F m low xs ys x T = some r) {t : Nat} (ht : t ≤ T) : gseed F m low xs ys x t = some (gsOf F m low xs ys x t) := by
 obtain ⟨s, hs⟩ := gseed_some T r h t ht
 unfold gsOf
 rw [hs]; rfl
theorem gseed_mono {F F' : List Int → List Int → Option (List Int)} (h : ∀ a b, LeO (F a b) (F' a b)) (m low : Nat) (xs ys : List (List Int)) (x : List Int) : ∀ t, LeO (gseed F m low xs ys x t) (gseed F' m low xs ys x t)
 | 0 => LeO.refl _
 | t + 1 => LeO.bind (gseed_mono h m low xs ys x t) (fun s => LeO.ite (h _ _) (h _ _))
def okN (e : Nat) (low : Int) (xs ys : List (List Int)) : Bool :=
 decide (0 ≤ low) && (decide (low ≤ 64) && (decide (bits_OnesCount64.f (Go.bits .and .u64 ((e : Int) / 2 ^ min low.toNat 64) 0) = some 0) && (decide (xs.length < 1099511627776) && decide (ys.length < 1099511627776))))
def okY (e low D : Nat) (sds : Nat → List Int) (xs ys : List (List Int)) : Bool :=
 decide (low + D ≤ 64) && (decide (bits_OnesCount64.f (Go.bits .and .u64 ((e : Int) / 2 ^ min low 64) (IntKind.u64.wrap (IntKind.u64.wrap (2 ^ min D 64) - 1))) = some (onesB e low D : Int)) && (decide (xs.length < 1099511627776) && (decide (ys.length < 1099511627776) && (List.range (D + 1)).all fun t => decide (onesB e low t ≤ xs.length) && (decide (t - onesB e low t ≤ ys.length) && decide ((sds t).length ≤ 140737488355328)))))
def mergeApp (F : List Int → List Int → Option (List Int)) (k : Nat) (b : Int) (e : Nat) (en : Int) (xs : List (List Int)) (x : List Int) (ys : List (List Int)) : Option (List (List Int) × List S51) :=
 (compact_getMergePath.f k b (e : Int) en).bind fun p =>
  if p.2 < p.1 then (if okN e p.1 xs ys = true then some (xs ++ [x] ++ ys, []) else none)
  else if 0 ≤ p.1 then (gseed F e p.1.toNat xs ys x (p.2 - p.1).toNat).bind fun s => if okY e p.1.toNat (p.2 - p.1).toNat (gsOf F e p.1.toNat xs ys x) xs ys = true then some (xs.take (xs.length - onesB e p.1.toNat (p.2 - p.1).toNat) ++ [s] ++ ys.drop ((p.2 - p.1).toNat - onesB e p.1.toNat (p.2 - p.1).toNat), visA p.1.toNat (fun t => ((e / 2 ^ (p.1.toNat + t) : Nat) : Int)) (gsOf F e p.1.toNat xs ys x) (p.2 - p.1).toNat) else none
  else none
theorem mergeApp_mono {F F' : List Int → List Int → Option (List Int)} (h : ∀ a b, LeO (F a b) (F' a b)) (k : Nat) (b : Int) (e : Nat) (en : Int) (xs : List (List Int)) (x : List Int) (ys : List (List Int)) : LeO (mergeApp F k b e en xs x ys) (mergeApp F' (k + 1) b e en xs x ys) := by
 unfold mergeApp
 refine LeO.bind (compact_getMergePath.mono _ _ _ _) (fun p => ?_)
 by_cases hp : p.2 < p.1
 ·rw [if_pos hp, if_pos hp]; exact LeO.refl _
 rw [if_neg hp, if_neg hp]
 by_cases hq : 0 ≤ p.1
 case neg => rw [if_neg hq, if_neg hq]; exact LeO.refl _
 rw [if_pos hq, if_pos hq]
 intro r hr
 obtain ⟨s, hs, hr⟩ := Option.bind_eq_some_iff.mp hr
 generalize (p.2 - p.1).toNat = D at hs hr ⊢
 generalize p.1.toNat = low at hs hr ⊢
 have he : ∀ t, t ≤ D → gsOf F' e low xs ys x t = gsOf F e low xs ys x t := fun t ht => by
  have h1 := gseed_of hs ht
  have h2 := gseed_mono h e low xs ys x t _ h1
  unfold gsOf at h2 ⊢
  rw [h2]; rfl
 by_cases hok : okY e low D (gsOf F e low xs ys x) xs ys = true
 case neg => rw [if_neg hok] at hr; cases hr
 rw [if_pos hok] at hr
 have hok' : okY e low D (gsOf F' e low xs ys x) xs ys = true := by
  unfold okY at hok ⊢
  simp only [Bool.and_eq_true] at hok ⊢
  refine ⟨hok.1, hok.2.1, hok.2.2.1, hok.2.2.2.1, ?_⟩
  have := hok.2.2.2.2
  refine List.all_eq_true.mpr (fun t ht => ?_)
  rw [he t (by have := List.mem_range.mp ht; omega)]
  exact List.all_eq_true.mp this t ht
 have hv : ∀ ix, visA low ix (gsOf F' e low xs ys x) D = visA low ix (gsOf F e low xs ys x) D := fun ix => by
  unfold visA
  refine List.map_congr_left (fun t ht => ?_)
  rw [he (t + 1) (by have := List.mem_range.mp ht; omega)]
 rw [gseed_mono h e low xs ys x _ _ hs, Option.bind_some, if_pos hok', hv]
 exact hr
def rangeApp (F : List Int → List Int → Option (List Int)) (k : Nat) (b e e2 : Int) (xs ys : List (List Int)) : Option (Int × List (List Int) × List S51) :=
 match ys with
 | [] => some (e, xs, [])
 | y :: l => (mergeApp F k b e.toNat e2 xs y l).bind fun p => some (e2, p.1, p.2)
theorem rangeApp_mono {F F' : List Int → List Int → Option (List Int)} (h : ∀ a b, LeO (F a b) (F' a b)) (k : Nat) (b e e2 : Int) (xs ys : List (List Int)) : LeO (rangeApp F k b e e2 xs ys) (rangeApp F' (k + 1) b e e2 xs ys) := by
 cases ys with
 | nil => exact LeO.refl _
 | cons y l => exact LeO.bind (mergeApp_mono h _ _ _ _ _ _ _) (fun p => LeO.refl _)
def impl_AppendRange.f (k : Nat) (a0 a1 a2 a3 a4 a5 b e : Int) (hs : List (List Int)) (b2 e2 : Int) (hs2 : List (List Int)) : Option (Int × Int × List (List Int) × List S51 × Bool) :=
 if (0 ≤ b ∧ b ≤ e ∧ e < 18446744073709551616) ∧ compact_RangeSize.f k b e = some (hs.length : Int) ∧ b2 ≤ e2 ∧ compact_RangeSize.f k b2 e2 = some (hs2.length : Int) then (impl_texts.f k hs).bind fun xs => (impl_texts.f k hs2).bind fun ys => if xs.length = hs.length ∧ ys.length = hs2.length then (if b2 = e then (rangeApp (impl_toy_HashChildren.f k a0 a1 a2 a3 a4 a5) k b e e2 xs ys).bind fun p => (impl_texts.f k p.2.1).bind fun r => some (b, p.1, r, p.2.2, true) else some (0, 0, [], [], false)) else none else none
theorem impl_AppendRange.mono : ∀ a0 a1 a2 a3 a4 a5 b e hs b2 e2 hs2 k, LeO (impl_AppendRange.f k a0 a1 a2 a3 a4 a5 b e hs b2 e2 hs2) (impl_AppendRange.f (k + 1) a0 a1 a2 a3 a4 a5 b e hs b2 e2 hs2) := by
 intro a0 a1 a2 a3 a4 a5 b e hs b2 e2 hs2 k
 unfold impl_AppendRange.f
 by_cases h : (0 ≤ b ∧ b ≤ e ∧ e < 18446744073709551616) ∧ compact_RangeSize.f k b e = some (hs.length : Int) ∧ b2 ≤ e2 ∧ compact_RangeSize.f k b2 e2 = some (hs2.length : Int)
 case neg => rw [if_neg h]; exact LeO.none _
 rw [if_pos h, if_pos ⟨h.1, compact_RangeSize.mono _ _ _ _ h.2.1, h.2.2.1, compact_RangeSize.mono _ _ _ _ h.2.2.2⟩]
 exact LeO.bind (impl_texts.mono _ _) (fun x => LeO.bind (impl_texts.mono _ _) (fun y => LeO.ite (LeO.ite (LeO.bind (rangeApp_mono (fun a b => impl_toy_HashChildren.mono _ _ _ _ _ _ _ _ _) k _ _ _ _ _) (fun p => LeO.bind (impl_texts.mono _ _) (fun _ => LeO.refl _))) (LeO.refl _)) (LeO.refl _)))
theorem Appd.draws {w w' : World} {tb p fq q : Nat} {a0 a1 a2 a3 a4 a5 b en : Int} {A : Option Addr} {c n : Nat} {xs : List (List Int)} {vs : List S51} {m : Nat} (h : Appd (w.drewN m) w' tb p fq q a0 a1 a2 a3 a4 a5 b en A c n xs vs) : Appd w w' tb p fq q a0 a1 a2 a3 a4 a5 b en A c n xs vs := by
 obtain ⟨A', c', ss', SV', R', q', S', F, hB', hat⟩ := h
 exact ⟨A', c', ss', SV', R', q', S', ⟨F.os, F.tape, F.output, F.size, F.block⟩, fun B h1 h2 h3 => (pw_below_drewN (Below.refl B w) m).trans (hB' B h1 h2 h3), hat⟩
theorem and_one_even (n : Nat) (hn : n < 18446744073709551616) (h : n % 2 ≠ 1) : Go.bits .and .u64 (n : Int) 1 = 0 := by
 have h4 := u64_and_nat n 1 hn (by omega)
 rw [Nat.and_one_is_mod, show n % 2 = 0 by omega] at h4
 exact h4
theorem rangeApp.calls (k : Nat) (a0 a1 a2 a3 a4 a5 : Int) (tb p px fq q : Nat) (b e2 : Int) (e : Nat) (A : Option Addr) (c : Nat) (ss : List SH) (xs : List (List Int)) (SV : Value) (Ay : Option Addr) (cy : Nat) (st : List SH) (ys : List (List Int)) (w : World) (en : Int) (zs : List (List Int)) (V : List S51)
 (hG : Glob w) (htb : tb ≤ w.heap.size) (R : RgAt w tb p fq a0 a1 a2 a3 a4 a5 b (e : Int) A c ss xs) (hq : w.heap[q]? = some (.cells #[SV] 36 (0, 0))) (hS : Kd.S k51 51 w tb (fun _ => True) SV []) (he : e < 18446744073709551616)
 (cellx : w.heap[px]? = some (.cells #[.pointer (some ⟨fq, 0, none⟩), .int .u64 (e : Int), .int .u64 e2, .slice Ay st.length cy] 148 (0, 0))) (hpx : px ≠ p)
 (Y : Rw w tb (.slice Ay st.length cy) st) (hyl : st.length = ys.length) (hyt : ∀ (j : Nat) (s : SH) (x : List Int), st[j]? = some s → ys[j]? = some x → Txt tb w s x) (hap : ∀ g, (Value.slice Ay st.length cy).ownBlock = some g → some g ≠ (Value.slice A ss.length c).ownBlock)
 (h : rangeApp (impl_toy_HashChildren.f k a0 a1 a2 a3 a4 a5) k b (e : Int) e2 xs ys = some (en, zs, V)) :
 Calls Tryd.prog 52 #[.pointer (some ⟨p, 0, none⟩), .pointer (some ⟨px, 0, none⟩), .func (.func 53) #[] #[.pointer (some ⟨q, 0, none⟩)]] w fun ex w' => ex = .returned .nilIface ∧ Appd w w' tb p fq q a0 a1 a2 a3 a4 a5 b en A c ss.length zs V := by
 cases ys with
 | nil =>
  have h := Option.some.inj h
  simp only [Prod.mk.injEq] at h
  obtain ⟨rfl, rfl, rfl⟩ := h
  have hl0 : st.length = 0 := hyl
  rw [hl0] at cellx
  refine (appendRangeNil.calls p px fq q b (e : Int) e2 (.slice A ss.length c) Ay cy w R.cell cellx).mono ?_
  rintro ex w' ⟨rfl, m, rfl⟩
  have hb := pw_below_drewN (Below.refl w.heap.size w) m
  exact ⟨rfl, A, c, ss, SV, R.below hb, blk_below hq hb, Kd.S_below hS hb, ⟨hb.os, hb.tape, hb.output, hb.size, fun k hk _ _ _ _ => hb.block k hk⟩, fun B h1 _ _ => hb.mono (Nat.le_trans h1 htb), .inl rfl⟩
 | cons y l =>
  unfold rangeApp at h
  obtain ⟨⟨zs', V'⟩, hm, h⟩ := Option.bind_eq_some_iff.mp h
  have h := Option.some.inj h
  simp only [Prod.mk.injEq] at h
  obtain ⟨rfl, rfl, rfl⟩ := h
  rw [Int.toNat_natCast] at hm
  cases st with
  | nil => cases hyl
  | cons s0 rr =>
   rw [List.length_cons] at cellx Y hap
   have hrl : rr.length = l.length := by rw [List.length_cons, List.length_cons] at hyl; omega
   obtain ⟨gy, cc, e4, hgy⟩ := kSH_form (s := (Ay, rr.length + 1, cy)) Y (Nat.succ_pos _)
   simp only [Prod.mk.injEq] at e4
   obtain ⟨rfl, -, rfl⟩ := e4
   obtain ⟨As, ns, cs⟩ := s0
   have hown : (Value.slice (some ⟨gy, 0, none⟩) (rr.length + 1) cy).ownBlock = some gy := rfl
   have hap' := hap gy hown
   have hsd := hyt 0 (As, ns, cs) y rfl rfl
   have hyt' : ∀ (j : Nat) (s : SH) (x : List Int), rr[j]? = some s → l[j]? = some x → Txt tb w s x := fun j s x h1 h2 => hyt (j + 1) s x h1 h2
   have hqp : q ≠ p := ty_ne hq R.cell (by decide)
   have hxr : some px ≠ (Value.slice A ss.length c).ownBlock := fun e => by
    obtain ⟨d, hd⟩ := Kd.R_typed R.row px e.symm
    exact ty_ne cellx hd (by decide) rfl
   obtain ⟨cg, hcg⟩ := Kd.R_typed Y gy hown
   have hx4 : w.cell? ⟨gy, 0, none⟩ = some (.slice As ns cs) := (kSH_cell Y (i := 0) (x := (As, ns, cs)) rfl).1
   have keep : ∀ {w' : World} {zs : List (List Int)} {vs : List S51}, Appd w w' tb p fq q a0 a1 a2 a3 a4 a5 b e2 A c ss.length zs vs → w'.cell? ⟨px, 2, none⟩ = some (.int .u64 e2) ∧ w'.cell? ⟨px, 3, none⟩ = some (.slice (some ⟨gy, 0, none⟩) (rr.length + 1) cy) ∧ w'.cell? ⟨gy, 0, none⟩ = some (.slice As ns cs) := fun hA => by
    obtain ⟨A', c', ss', SV', R', q', S', F, hB', hat⟩ := hA
    have f1 := F.blk cellx hpx (ty_ne cellx hq (by decide)) hxr (by decide)
    have f2 := F.blk hcg (ty_ne hcg R.cell (by decide)) (ty_ne hcg hq (by decide)) hap' (by decide)
    refine ⟨blk_cell f1 2, blk_cell f1 3, ?_⟩
    have : ∀ (W W' : World) (g : Nat), W'.heap[g]? = W.heap[g]? → W'.cell? ⟨g, 0, none⟩ = W.cell? ⟨g, 0, none⟩ := fun W W' g h => by unfold World.cell?; rw [h]
    rw [this w _ gy (f2.trans hcg.symm)]; exact hx4
   have hAll : ∀ m, Calls Tryd.prog 90 #[.pointer (some ⟨p, 0, none⟩), .int .u64 e2, .slice As ns cs, .slice (if cy = 1 then (some ⟨gy, 0, none⟩ : Option Addr) else (some ⟨gy, 0, none⟩ : Option Addr).map (·.add (1 * 1))) rr.length (cy - 1), .func (.func 53) #[] #[.pointer (some ⟨q, 0, none⟩)]] (w.drewN m) fun ex w' => ex = .returned .nilIface ∧ Appd w w' tb p fq q a0 a1 a2 a3 a4 a5 b e2 A c ss.length zs' V' := by
    intro m
    have hb := pw_below_drewN (Below.refl w.heap.size w) m
    unfold mergeApp at hm
    obtain ⟨⟨lo, hi⟩, hmp, hm⟩ := Option.bind_eq_some_iff.mp hm
    dsimp only at hm
    by_cases hlt : hi < lo
    ·rw [if_pos hlt] at hm
     by_cases hok : okN e lo xs l = true
     case neg => rw [if_neg hok] at hm; cases hm
     rw [if_pos hok] at hm
     have hm := Option.some.inj hm
     simp only [Prod.mk.injEq] at hm
     obtain ⟨rfl, rfl⟩ := hm
     unfold okN at hok
     simp only [Bool.and_eq_true, decide_eq_true_eq] at hok
     obtain ⟨o1, o2, o3, o4, o5⟩ := hok
     obtain ⟨low, rfl⟩ : ∃ low : Nat, lo = (low : Int) := ⟨lo.toNat, by omega⟩
     rw [Int.toNat_natCast] at o3
     refine (appendMixNone.calls k a0 a1 a2 a3 a4 a5 tb p fq q b (e : Int) e2 low hi A c ss xs As ns cs SV [] y gy cy (As, ns, cs) rr l _ (w.drewN m) (hG.below hb) (Nat.le_trans htb hb.size) (R.below hb) (hsd.pres (Pres5.below hb)) (blk_below hq hb) (Kd.S_below hS hb) hmp hlt (by omega) (Kd.R_below Y hb) hrl (fun j s x h1 h2 => (hyt' j s x h1 h2).pres (Pres5.below hb)) hap' rfl o5 o3 o4).mono ?_
     rintro ex w' ⟨rfl, hA⟩
     exact ⟨rfl, hA.draws⟩
    ·rw [if_neg hlt] at hm
     by_cases hlo : 0 ≤ lo
     case neg => rw [if_neg hlo] at hm; cases hm
     rw [if_pos hlo] at hm
     obtain ⟨low, rfl⟩ : ∃ low : Nat, lo = (low : Int) := ⟨lo.toNat, by omega⟩
     obtain ⟨D, hD⟩ : ∃ D : Nat, (hi - (low : Int)).toNat = D := ⟨_, rfl⟩
     rw [Int.toNat_natCast, hD] at hm
     obtain ⟨s, hs, hm⟩ := Option.bind_eq_some_iff.mp hm
     by_cases hok : okY e low D (gsOf (impl_toy_HashChildren.f k a0 a1 a2 a3 a4 a5) e low xs l y) xs l = true
     case neg => rw [if_neg hok] at hm; cases hm
     rw [if_pos hok] at hm
     have hm := Option.some.inj hm
     simp only [Prod.mk.injEq] at hm
     obtain ⟨rfl, rfl⟩ := hm
     unfold okY at hok
     simp only [Bool.and_eq_true, decide_eq_true_eq] at hok
     obtain ⟨o1, o2, o3, o4, o5⟩ := hok
     have hl : ∀ t, t ≤ D → onesB e low t ≤ xs.length ∧ t - onesB e low t ≤ l.length ∧ (gsOf (impl_toy_HashChildren.f k a0 a1 a2 a3 a4 a5) e low xs l y t).length ≤ 140737488355328 := fun t ht => by
      have := List.all_eq_true.mp o5 t (List.mem_range.mpr (by omega))
      simpa using this
     have hs0 : gsOf (impl_toy_HashChildren.f k a0 a1 a2 a3 a4 a5) e low xs l y 0 = y := rfl
     have hsT : gsOf (impl_toy_HashChildren.f k a0 a1 a2 a3 a4 a5) e low xs l y D = s := by unfold gsOf; rw [hs]; rfl
     have hEd : ∀ t, e / 2 ^ t < 18446744073709551616 := fun t => Nat.lt_of_le_of_lt (Nat.div_le_self _ _) he
     have hstep : ∀ t, t < D → (Go.bits .and .u64 ((e / 2 ^ (low + t) : Nat) : Int) 1 = 1 ∧ onesB e low (t + 1) = onesB e low t + 1 ∧ impl_toy_HashChildren.f k a0 a1 a2 a3 a4 a5 (xs.getD (xs.length - 1 - onesB e low t) []) (gsOf (impl_toy_HashChildren.f k a0 a1 a2 a3 a4 a5) e low xs l y t) = some (gsOf (impl_toy_HashChildren.f k a0 a1 a2 a3 a4 a5) e low xs l y (t + 1))) ∨ (Go.bits .and .u64 ((e / 2 ^ (low + t) : Nat) : Int) 1 = 0 ∧ onesB e low (t + 1) = onesB e low t ∧ impl_toy_HashChildren.f k a0 a1 a2 a3 a4 a5 (gsOf (impl_toy_HashChildren.f k a0 a1 a2 a3 a4 a5) e low xs l y t) (l.getD (t - onesB e low t) []) = some (gsOf (impl_toy_HashChildren.f k a0 a1 a2 a3 a4 a5) e low xs l y (t + 1))) := fun t ht => by
      have g1 := gseed_of hs (show t ≤ D by omega)
      have g2 := gseed_of hs (show t + 1 ≤ D by omega)
      rw [gseed, g1, Option.bind_some] at g2
      by_cases hbit : e / 2 ^ (low + t) % 2 = 1
      ·rw [if_pos hbit] at g2
       exact .inl ⟨and_one_odd _ (hEd _) hbit, by rw [onesB, hbit], g2⟩
      ·rw [if_neg hbit] at g2
       exact .inr ⟨and_one_even _ (hEd _) hbit, by rw [onesB]; omega, g2⟩
     refine (appendMix.calls k a0 a1 a2 a3 a4 a5 tb p fq q b (e : Int) e2 low D hi A c ss xs As ns cs SV [] (fun t => ((e / 2 ^ (low + t) : Nat) : Int)) (gsOf (impl_toy_HashChildren.f k a0 a1 a2 a3 a4 a5) e low xs l y) (onesB e low) gy cy (As, ns, cs) rr l _ (w.drewN m) (hG.below hb) (Nat.le_trans htb hb.size) (R.below hb) (hsd.pres (Pres5.below hb)) (blk_below hq hb) (Kd.S_below hS hb) hmp (by omega) o1 ?_ ?_ (Kd.R_below Y hb) hrl (fun j s x h1 h2 => (hyt' j s x h1 h2).pres (Pres5.below hb)) hap' rfl rfl (fun t ht => ⟨onesB_le e low t, (hl t ht).1, (hl t ht).2.1⟩) o4 hstep o2 o3 (by decide) (fun t ht => (hl t ht).2.2)).mono ?_
     ·show ((e / 2 ^ (low + 0) : Nat) : Int) = (e : Int) / 2 ^ min low 64
      rw [Nat.add_zero, Nat.min_eq_left (by omega), Int.natCast_ediv, Int.natCast_pow]; rfl
     ·intro t ht
      show ((e / 2 ^ (low + (t + 1)) : Nat) : Int) = ((e / 2 ^ (low + t) : Nat) : Int) / 2
      rw [← Nat.add_assoc, Nat.pow_succ, ← Nat.div_div_eq_div_mul]; omega
     ·rintro ex w' ⟨rfl, hA⟩
      rw [hsT] at hA
      exact ⟨rfl, hA.draws⟩
   refine (appendRangeYes.calls p px fq q gy cy b (e : Int) e2 (.slice A ss.length c) (As, ns, cs) rr tb _ w hG R.cell cellx Y rfl (fun _ w' => Appd w w' tb p fq q a0 a1 a2 a3 a4 a5 b e2 A c ss.length zs' V') (fun m => (hAll m).mono ?_))
   rintro ex w' ⟨rfl, hA⟩
   exact ⟨rfl, hA, keep hA⟩
end Go.Proofs.YtielnphmcaecdaaDoor.PAll
