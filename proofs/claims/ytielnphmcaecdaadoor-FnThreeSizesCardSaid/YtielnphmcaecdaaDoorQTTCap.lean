-- Written by a program of this session (wip/tools)
import Derived.Test.YtielnphmcaecdaaDoorQTTExtRangeA3
import Derived.Test.YtielnphmcaecdaaDoorQTTTreeMem
import Derived.Outline
import Derived.Deep.QuietTactic
import Derived.BigQuiet
import Derived.Test.YtielnphmcaecdaaDoorQTTV0
set_option maxHeartbeats 8000000
set_option maxRecDepth 100000
set_option linter.unusedVariables false
set_option linter.unusedSimpArgs false
namespace Go.Proofs.YtielnphmcaecdaaDoor.PAll
open Go.IntWalk Go.RowKit Go.Proofs.YtielnphmcaecdaaDoorW.PrintWords Go.Proofs.YtielnphmcaecdaaDoorW.PrintLast Go.Proofs.YtielnphmcaecdaaDoorW.PrintMore
theorem w64n {a b : Nat} (h : a + 1 = b) (hb : b ≤ 100) : wrap64 ((a : Int) + 1) = (b : Int) := by unfold wrap64; omega
theorem w64d {D z : Nat} (h : D ≤ 64) (hz : z ≤ D) : wrap64 (wrap64 (D : Int) - (z : Int)) = ((D - z : Nat) : Int) := by unfold wrap64; omega
theorem app_end2 {st : List SH} {xt : List (List Int)} {w wr w2 : World} {tb p fq q D : Nat} {a0 a1 a2 a3 a4 a5 b e en : Int} {A A6 : Option Addr} {c c6 : Nat} {ss : List SH} {xs : List (List Int)} {s : SH} {sd : List Int} {SV : Value} {vs : List S51} {L : Nat} (hL : L = (ss.take (ss.length - D) ++ [s] ++ st).length) (htb : tb ≤ w.heap.size) (R : RgAt wr tb p fq a0 a1 a2 a3 a4 a5 b e A c ss xs) (hs : Txt tb wr s sd) (hst : st.length = xt.length) (htt : ∀ (j : Nat) (s : SH) (x : List Int), st[j]? = some s → xt[j]? = some x → Txt tb wr s x)
 (hq : wr.heap[q]? = some (.cells #[SV] 36 (0, 0))) (hS : Kd.S k51 51 wr tb (fun _ => True) SV vs) (hVs : Vs q w wr) (hBB : ∀ B, B ≤ tb → B ≤ q → Below B w wr) (hR2 : Rw w2 tb (.slice A6 L c6) (ss.take (ss.length - D) ++ [s] ++ st))
 (hg : wr.grownBy w2 (Value.slice A ss.length c).ownBlock) (hat : (Value.slice A6 L c6).ownBlock = (Value.slice A ss.length c).ownBlock ∨ ∃ g, (Value.slice A6 L c6).ownBlock = some g ∧ wr.heap.size ≤ g) (hbw : Below tb wr w2) :
 Appd w ((w2.setCell ⟨p, 3, none⟩ (.slice A6 L c6)).setCell ⟨p, 2, none⟩ (.int .u64 en)) tb p fq q a0 a1 a2 a3 a4 a5 b en A c ss.length (xs.take (xs.length - D) ++ [sd] ++ xt) vs := by
 subst hL
 have hty := Kd.R_typed R.row
 have hne : ∀ (g t : Nat) (cs : Array Value), wr.heap[g]? = some (.cells cs t (0, 0)) → t ≠ 27 → some g ≠ (Value.slice A ss.length c).ownBlock := fun g t cs h ht e => by
  obtain ⟨d, hd⟩ := hty g e.symm
  exact ty_ne h hd ht rfl
 have c2 := blk_grown R.cell hg (hne _ _ _ R.cell (by decide))
 have f2 := blk_grown R.fac hg (hne _ _ _ R.fac (by decide))
 have q2 := blk_grown hq hg (hne _ _ _ hq (by decide))
 have hfp : fq ≠ p := ty_ne R.fac R.cell (by decide)
 have hqp : q ≠ p := ty_ne hq R.cell (by decide)
 have c3 := blk_set c2 3 (.slice A6 (ss.take (ss.length - D) ++ [s] ++ st).length c6)
 have p1 : Pres5 wr w2 := Pres5.grown hg (fun k e => by obtain ⟨d, hd⟩ := hty k e; exact ⟨d, 27, by decide, hd⟩)
 have p2 := Pres5.set c2 (by decide) 3 (.slice A6 (ss.take (ss.length - D) ++ [s] ++ st).length c6)
 have p3 := Pres5.set c3 (by decide) 2 (.int .u64 en)
 refine ⟨A6, c6, _, SV, ⟨blk_set c3 2 (.int .u64 en), blk_far (blk_far f2 (p := ⟨p, 3, none⟩) hfp _) (p := ⟨p, 2, none⟩) hfp _, Kd.R_set (Kd.R_set hR2 c2 (by decide) _ _) c3 (by decide) _ _, ?_, ?_⟩, blk_far (blk_far q2 (p := ⟨p, 3, none⟩) hqp _) (p := ⟨p, 2, none⟩) hqp _, Kd.S_set (Kd.S_set (Kd.S_over' hS hty (by decide) hg) c2 (by decide) _ _) c3 (by decide) _ _, ?_, ?_, ?_⟩
 ·simp only [List.length_append, List.length_take, List.length_singleton, R.len, hst]
 ·intro j s' x' h1 h2
  rw [← R.len] at h2
  have hl1 : (ss.take (ss.length - D) ++ [s]).length = ss.length - D + 1 := by rw [List.length_append, List.length_take, List.length_singleton]; omega
  have hl2 : (xs.take (ss.length - D) ++ [sd]).length = ss.length - D + 1 := by rw [List.length_append, List.length_take, List.length_singleton, ← R.len]; omega
  by_cases hj : j < ss.length - D + 1
  ·rw [List.getElem?_append_left (by omega)] at h1 h2
   exact (((txt_snoc R.len R.txt hs (ss.length - D) (Nat.sub_le _ _) j s' x' h1 h2).pres p1).pres p2).pres p3
  ·rw [List.getElem?_append_right (by omega)] at h1 h2
   rw [hl1] at h1
   rw [hl2] at h2
   exact (((htt _ s' x' h1 h2).pres p1).pres p2).pres p3
 ·have hb0 := ((hBB 0 (Nat.zero_le _) (Nat.zero_le _)).trans (hbw.mono (Nat.zero_le _)))
  refine ⟨hb0.os, hb0.tape, hb0.output, by rw [World.size_setCell, World.size_setCell]; exact hb0.size, fun k hk h1 h2 h3 h4 => ?_⟩
  rw [Below.heap_setCell _ ⟨p, 2, none⟩ _ k h1, Below.heap_setCell _ ⟨p, 3, none⟩ _ k h1, hg.block k (Nat.lt_of_lt_of_le hk hVs.size) h3]
  exact hVs.block k hk h2 h4
 ·intro B h1 h2 h3
  exact (((hBB B h1 h2).trans (hbw.mono h1)).setCell (p := ⟨p, 3, none⟩) h3 _).setCell (p := ⟨p, 2, none⟩) h3 _
 ·rcases hat with h | ⟨g, h, hle⟩
  ·exact .inl h
  ·exact .inr ⟨g, h, Nat.le_trans hVs.size hle⟩
theorem appendMix.calls (k : Nat) (a0 a1 a2 a3 a4 a5 : Int) (tb p fq q : Nat) (b e en : Int) (low D : Nat) (hiv : Int) (A : Option Addr) (c : Nat) (ss : List SH) (xs : List (List Int)) (As : Option Addr) (ns cs : Nat) (SV : Value) (vs : List S51) (ix : Nat → Int) (sds : Nat → List Int) (o : Nat → Nat) (gy cy : Nat) (s0 : SH) (rr : List SH) (ys : List (List Int)) (Ar : Option Addr) (w : World)
 (hG : Glob w) (htb : tb ≤ w.heap.size) (R : RgAt w tb p fq a0 a1 a2 a3 a4 a5 b e A c ss xs) (hs : Txt tb w (As, ns, cs) (sds 0)) (hq : w.heap[q]? = some (.cells #[SV] 36 (0, 0))) (hS : Kd.S k51 51 w tb (fun _ => True) SV vs)
 (hmp : compact_getMergePath.f k b e en = some ((low : Int), hiv)) (hhi : hiv = ((low + D : Nat) : Int)) (hD64 : low + D ≤ 64)
 (hix0 : ix 0 = e / 2 ^ min low 64) (hixs : ∀ t, t < D → ix (t + 1) = ix t / 2)
 (Y : Rw w tb (.slice (some ⟨gy, 0, none⟩) (rr.length + 1) cy) (s0 :: rr)) (hyl : rr.length = ys.length) (hyt : ∀ (j : Nat) (s : SH) (x : List Int), rr[j]? = some s → ys[j]? = some x → Txt tb w s x) (hap : some gy ≠ (Value.slice A ss.length c).ownBlock) (hAr : Ar = (if cy = 1 then (some ⟨gy, 0, none⟩ : Option Addr) else (some ⟨gy, 0, none⟩ : Option Addr).map (·.add (1 * 1))))
 (ho0 : o 0 = 0) (hol : ∀ t, t ≤ D → o t ≤ t ∧ o t ≤ xs.length ∧ t - o t ≤ ys.length) (hyn : ys.length < 1099511627776)
 (hos : ∀ t, t < D → (Go.bits .and .u64 (ix t) 1 = 1 ∧ o (t + 1) = o t + 1 ∧ impl_toy_HashChildren.f k a0 a1 a2 a3 a4 a5 (xs.getD (xs.length - 1 - o t) []) (sds t) = some (sds (t + 1))) ∨ (Go.bits .and .u64 (ix t) 1 = 0 ∧ o (t + 1) = o t ∧ impl_toy_HashChildren.f k a0 a1 a2 a3 a4 a5 (sds t) (ys.getD (t - o t) []) = some (sds (t + 1))))
 (hones : bits_OnesCount64.f (Go.bits .and .u64 (e / 2 ^ min low 64) (IntKind.u64.wrap (IntKind.u64.wrap (2 ^ min D 64) - 1))) = some (o D : Int))
 (hn : xs.length < 1099511627776) (hvs : vs.length + 64 < 1099511627776)
 (hsl : ∀ t, t ≤ D → (sds t).length ≤ 140737488355328) :
 Calls Tryd.prog 90 #[.pointer (some ⟨p, 0, none⟩), .int .u64 en, .slice As ns cs, .slice Ar rr.length (cy - 1), .func (.func 53) #[] #[.pointer (some ⟨q, 0, none⟩)]] w fun ex w' => ex = .returned .nilIface ∧ Appd w w' tb p fq q a0 a1 a2 a3 a4 a5 b en A c ss.length (xs.take (xs.length - o D) ++ [sds D] ++ ys.drop (D - o D)) (vs ++ visA low ix sds D) := by
 have HG := Aside0.mk hG
 have HTB := Aside0.mk htb
 have HR := Aside0.mk R
 have HS := Aside0.mk hs
 have HQ := Aside0.mk hq
 have HV := Aside0.mk hS
 have HMP := Aside0.mk hmp
 have HON := Aside0.mk hones
 have g1 : decide (hiv < (low : Int)) = false := decide_eq_false (by omega)
 have hln := R.len
 have hoD := hol D (Nat.le_refl _)
 have g2 : decide ((ss.length : Int) < (o D : Int)) = false := decide_eq_false (by omega)
 have g3 : decide (ss.length < o D) = false := decide_eq_false (by omega)
 have g4 : decide ((rr.length : Int) < ((D - o D : Nat) : Int)) = false := decide_eq_false (by omega)
 have g5 : decide (rr.length < D - o D) = false := decide_eq_false (by omega)
 have HY := Aside0.mk Y
 have HYL := Aside0.mk hyl
 have HYT := Aside0.mk hyt
 have HAPT := Aside0.mk hap
 have HAR := Aside0.mk hAr
 have HO0 := Aside0.mk ho0
 have HOL := Aside0.mk hol
 have HOS := Aside0.mk hos
 have HYN := Aside0.mk hyn
 have hlw : IntKind.u64.wrap (hiv - (low : Int)) = (D : Int) := by rw [hhi]; exact (congrArg IntKind.u64.wrap (by omega : (((low + D : Nat) : Int) - (low : Int)) = (D : Int))).trans (Go.Proofs.YtielnphmcaecdaaDoor.Num.u64in (by omega))
 have hzz : wrap64 (wrap64 (D : Int) - (o D : Int)) = ((D - o D : Nat) : Int) := w64d (by omega) hoD.1
 have HHI := Aside0.mk hhi
 have HD := Aside0.mk hD64
 have HI0 := Aside0.mk hix0
 have HIS := Aside0.mk hixs
 have HN := Aside0.mk hn
 have HVS := Aside0.mk hvs
 have HSL := Aside0.mk hsl
 have y0 : w.cell? ⟨p, 0, none⟩ = some (.pointer (some ⟨fq, 0, none⟩)) := blk_cell R.cell 0
 have y1 : w.cell? ⟨p, 1, none⟩ = some (.int .u64 b) := blk_cell R.cell 1
 have y2 : w.cell? ⟨p, 2, none⟩ = some (.int .u64 e) := blk_cell R.cell 2
 have y3 : w.cell? ⟨p, 3, none⟩ = some (.slice A ss.length c) := blk_cell R.cell 3
 clear hones hln hG htb R hs hq hS hmp hhi hD64 hix0 hixs hn hvs hsl Y hyl hyt hap hAr ho0 hol hos hyn hoD
 go_enter Tryd.func90, Tryd.ntmps90
 go_wp2_with (fail)
 go_region_held_law (fun w' => w'.cell? ⟨p, 1, none⟩ = some (.int .u64 b) ∧ w'.cell? ⟨p, 2, none⟩ = some (.int .u64 e)) (first | exact ⟨y1, y2⟩ | go_keep) (first
  | (
   go_simp; go_at_call 111
   refine (compact_getMergePath.calls k b e en low hiv _ (HG.out.below (by repeat (first | exact Below.refl _ _ | apply Below.drew | apply below_drew))) HMP.out).mono ?_
   rintro ex wq ⟨rfl, hd⟩
   obtain ⟨⟨nd, rfl⟩⟩ := hd)
  | fail)
 go_wp2_with (fail)
 refine (bits_OnesCount64.calls _ (o D : Int) _ HON.out).mono ?_
 rintro ex wq ⟨rfl, hd⟩
 obtain ⟨⟨nd2, rfl⟩⟩ := hd
 dsimp only
 go_wp2_with (fail)
 have hbd : Below w.heap.size w (w.drewN (1 + nd + nd2)) := pw_below_drewN (Below.refl _ _) _
 have HR1 := Aside0.mk (HR.out.below hbd)
 have HS1 := Aside0.mk (HS.out.pres (Pres5.below hbd))
 have HQ1 := Aside0.mk (blk_below HQ.out hbd)
 have HV1 := Aside0.mk (Kd.S_below HV.out hbd)
 have HY1 := Aside0.mk (Kd.R_below HY.out hbd)
 have HYT1 := Aside0.mk (show ∀ (j : Nat) (s : SH) (x : List Int), rr[j]? = some s → ys[j]? = some x → Txt tb _ s x from fun j s x h1 h2 => (HYT.out j s x h1 h2).pres (Pres5.below hbd))
 have HVs := Aside0.mk (Vs.of (q := q) hbd)
 have HBB := Aside0.mk (show ∀ B, B ≤ tb → B ≤ q → Below B w (w.drewN (1 + nd + nd2)) from fun B h _ => hbd.mono (Nat.le_trans h HTB.out))
 generalize w.drewN (1 + nd + nd2) = W at hbd HR1 HS1 HQ1 HV1 HVs HBB HY1 HYT1 ⊢
 clear y0 y1 y2 y3 HS HQ HV HMP HON hlw hzz g1 g2 g3 g4 g5 hbd HY HYT
 rw [← HI0.out]
 go_loopg [2, 13, 18, 19, 20] D (fun kq v2 v13 v18 v19 v20 w' => ∃ (t : Nat) (s : SH) (SV' : Value), v2 = .slice s.1 s.2.1 s.2.2 ∧ v13 = .int .u64 (ix t) ∧ v18 = .int .i64 ((ss.length - o t : Nat) : Int) ∧ v19 = .int .i64 ((t - o t : Nat) : Int) ∧ v20 = .int .u64 ((low + t : Nat) : Int) ∧ Aside0 (t + kq = D) ∧ Aside0 (Txt tb w' s (sds t)) ∧ Aside0 (w'.heap[q]? = some (.cells #[SV'] 36 (0, 0))) ∧ Aside0 (Kd.S k51 51 w' tb (fun _ => True) SV' (vs ++ visA low ix sds t)) ∧ Aside0 (RgAt w' tb p fq a0 a1 a2 a3 a4 a5 b e A c ss xs) ∧ Aside0 (Rw w' tb (.slice (some ⟨gy, 0, none⟩) (rr.length + 1) cy) (s0 :: rr)) ∧ Aside0 (∀ (j : Nat) (s : SH) (x : List Int), rr[j]? = some s → ys[j]? = some x → Txt tb w' s x) ∧ Aside0 (Vs q w w') ∧ Aside0 (∀ B, B ≤ tb → B ≤ q → Below B w w'))
 case atStart => exact ⟨0, (As, ns, cs), SV, rfl, rfl, by rw [HO0.out]; rfl, by rw [HO0.out]; rfl, rfl, ⟨by omega⟩, HS1, HQ1, ⟨by rw [show visA low ix sds 0 = [] from rfl, List.append_nil]; exact HV1.out⟩, HR1, HY1, HYT1, HVs, HBB⟩
 case round =>
  clear HR1 HS1 HQ1 HV1 HVs HBB HY1 HYT1
  obtain ⟨t, ⟨A1, n1, c1⟩, SV1, rfl, rfl, rfl, rfl, rfl, HI, HS1, HQ1, HV1, HR1, HY1, HYT1, HVs, HBB⟩ := hrel
  cases gk with
  | zero =>
   have et : t = D := by have := HI.out; omega
   subst et
   have g1 : decide (((low + t : Nat) : Int) < hiv) = false := decide_eq_false (by have := HHI.out; omega)
   have g1' : decide ((low : Int) + (t : Int) < hiv) = false := decide_eq_false (by have := HHI.out; omega)
   have hln : ss.length = xs.length := HR1.out.len
   obtain ⟨i0, hi0, _, hsz, _⟩ := info_parts info27
   have hRR := Kd.R_reads' HR1.out.row
   have hcut := cut_to (P := Tryd.prog) 25 27 .i64 Tryd.underlying25 hi0 A ss.length c ((ss.length - o t : Nat) : Int) (by omega) (by omega) hRR.2.1
   rw [Int.toNat_natCast] at hcut
   have hcut2 := cut_from (P := Tryd.prog) 25 27 .i64 Tryd.underlying25 hi0 1 hsz Ar rr.length (cy - 1) ((t - o t : Nat) : Int) (by omega) (by have := (HOL.out t (Nat.le_refl _)).2.2; have := HYL.out; omega)
   rw [Int.toNat_natCast] at hcut2
   obtain ⟨A9, hA9⟩ : ∃ A9, A9 = (if cy - 1 = t - o t then Ar else (Ar : Option Addr).map (·.add ((t - o t) * 1))) := ⟨_, rfl⟩
   obtain ⟨n9, hn9⟩ : ∃ n9, n9 = rr.length - (t - o t) := ⟨_, rfl⟩
   obtain ⟨c9, hc9⟩ : ∃ c9, c9 = cy - 1 - (t - o t) := ⟨_, rfl⟩
   rw [← hA9, ← hn9, ← hc9] at hcut2
   have HA9 := Aside0.mk hA9
   have HN9 := Aside0.mk hn9
   have HC9 := Aside0.mk hc9
   clear hA9 hn9 hc9
   have hRT := Kd.R_take (m := ss.length - o t) HR1.out.row (by omega)
   have y3 : wr.cell? ⟨p, 3, none⟩ = some (.slice A ss.length c) := blk_cell HR1.out.cell 3
   have z3 : ∀ o, (wr.alloc o).cell? ⟨p, 3, none⟩ = some (.slice A ss.length c) := fun o => (World.cell?_alloc_lt _ _ _ (blk_lt HR1.out.cell)).trans y3
   have HRT := Aside0.mk hRT
   have HSZ := Aside0.mk (show tb ≤ wr.heap.size from Nat.le_trans HTB.out HVs.out.size)
   have HLN := Aside0.mk hln
   clear hRR hRT hi0 hsz hln
   go_wp2_with (fail)
   go_region_law (first
    | (
     refine Kd.R_append_step kSH (w0 := wr) (W := wr.drew) tb ?hw (.tmp 137) (.tmp 139) 25 27 (.slice none 0 0) 24 rfl Tryd.underlying25 info27 rfl (by decide) (by omega) (.slice A (ss.length - o t) c) (ss.take (ss.length - o t)) (A1, n1, c1) [.slice A1 n1 c1] (fun _ => True) (fun _ => False) rfl rfl ?aP (fun _ h => h.elim) ?aF ?aO ?aB ?aS ?aL ?_
     (case hw => simp [Region.wanted])
     (case aP => rfl)
     (case aF => exact fun _ _ => trivial)
     (case aO => repeat (first | exact HRT.out | (refine Kd.R_alloc ?_ _) | (refine Kd.R_drewN ?_ _) | (refine Kd.R_drew ?_)))
     (case aB => repeat (first | exact Below.refl _ _ | apply Below.drew | apply below_drew))
     (case aS => exact Nat.le_trans HSZ.out (below_size (show Below wr.heap.size wr _ by repeat (first | exact Below.refl _ _ | apply Below.drew | apply below_drew))))
     (case aL => have := HN.out; have := HLN.out; rw [List.length_take]; omega)
     intro v1 w1 hR1 hB1 hg1 hat1
     obtain ⟨A5, n5, c5, rfl, hn5⟩ : ∃ A n c, v1 = .slice A n c ∧ n = (ss.take (ss.length - o t) ++ [(A1, n1, c1)]).length := by
      obtain ⟨A, c, h⟩ := Kd.R_slice hR1
      exact ⟨A, _, c, h, rfl⟩
     have HN5 := Aside0.mk hn5
     rw [own_at A (ss.length - o t) ss.length c c] at hg1 hat1
     have HR5 := Aside0.mk hR1
     have HB5 := Aside0.mk hB1
     have HG5 := Aside0.mk (grown_from (show Below wr.heap.size wr wr.drew from below_drew (Below.refl _ _)) hg1)
     have HAT5 := Aside0.mk (hat_from (show Below wr.heap.size wr wr.drew from below_drew (Below.refl _ _)) hat1)
     have HY5 := Aside0.mk (show Rw w1 tb (.slice (some ⟨gy, 0, none⟩) (rr.length + 1) cy) (s0 :: rr) from Kd.R_mono (Kd.R_grown (Kd.R_tight rfl HY1.out) HG5.out (fun k hk e2 => HAPT.out (by rw [← e2]; exact hk.symm))) (fun _ _ => trivial))
     have HC5 := Aside0.mk (show Kd.C kSH w1 A9 n9 (rr.drop (t - o t)) from by
      have q1 := Kd.R_reads' HY5.out
      have q2 := Kd.C_drop (m := 1) (c := cy) q1.2.2 (by simp) q1.2.1
      replace q2 : Kd.C kSH w1 Ar rr.length rr := by rw [HAR.out]; exact q2
      have q3 := Kd.C_drop (m := t - o t) (c := cy - 1) q2 (by have := (HOL.out t (Nat.le_refl _)).2.2; have := HYL.out; simp; omega) (by have := q1.2.1; simp; omega)
      rw [HA9.out, HN9.out, ← List.length_drop]
      exact q3)
     clear hR1 hB1 hg1 hat1 hn5)
    | (
     refine Kd.R_append_rows_step kSH (w0 := wr) (W := w1) tb ?hw (.tmp 140) (.tmp 143) 25 27 (.slice none 0 0) 24 rfl Tryd.underlying25 info27 rfl (by decide) (by omega) (.slice A5 n5 c5) (ss.take (ss.length - o t) ++ [(A1, n1, c1)]) (rr.drop (t - o t)) A9 n9 c9 (fun _ => True) (fun _ => False) rfl rfl ?aO HC5.out (fun _ _ h => h) (fun _ h => h.elim) ?aF ?aB ?aS ?aL ?_
     (case hw => simp [Region.wanted])
     (case aO => exact HR5.out)
     (case aF => exact fun _ _ => trivial)
     (case aB => exact HB5.out)
     (case aS => exact Nat.le_trans HSZ.out (HG5.out.size))
     (case aL => have := HN.out; have := HLN.out; have := HN9.out; have := HYN.out; have := HYL.out; simp only [List.length_append, List.length_take, List.length_singleton]; omega)
     intro v2 w2 hR2 hB2 hg2 hat2
     obtain ⟨A6, n6, c6, rfl, hn6⟩ : ∃ A n c, v2 = .slice A n c ∧ n = (ss.take (ss.length - o t) ++ [(A1, n1, c1)] ++ rr.drop (t - o t)).length := by
      obtain ⟨A, c, h⟩ := Kd.R_slice hR2
      exact ⟨A, _, c, h, rfl⟩
     have HN6 := Aside0.mk hn6
     have HR6 := Aside0.mk hR2
     have HB6 := Aside0.mk hB2
     have HG6 := Aside0.mk (grown_two HG5.out HAT5.out hg2)
     have HAT6 := Aside0.mk (hat_two HG5.out.size HAT5.out hat2)
     have hpc := blk_grown HR1.out.cell HG6.out (fun e => by obtain ⟨d, hd⟩ := Kd.R_typed HR1.out.row p e.symm; exact ty_ne HR1.out.cell hd (by decide) rfl)
     have f3 : w2.frozen? ⟨p, 3, none⟩ = false := blk_frozen hpc 3
     have f2 : w2.frozen? ⟨p, 2, none⟩ = false := blk_frozen hpc 2
     have y3_ : w2.cell? ⟨p, 3, none⟩ = some (.slice A ss.length c) := blk_cell hpc 3
     have y2_ : w2.cell? ⟨p, 2, none⟩ = some (.int .u64 e) := blk_cell hpc 2
     clear hR2 hB2 hg2 hat2 hpc hn6)
    | fail)
   all_goals
    go_wp2_with (fail)
    go_ret
    exact ⟨rfl, app_end2 (D := o t) HN6.out HTB.out HR1.out HS1.out (by rw [List.length_drop, List.length_drop, HYL.out]) (fun j s x h1 h2 => by rw [List.getElem?_drop] at h1 h2; exact HYT1.out _ s x h1 h2) HQ1.out HV1.out HVs.out HBB.out HR6.out HG6.out HAT6.out HB6.out⟩
  | succ k1 =>
   have ht : t < D := by have := HI.out; omega
   have g1 : decide (((low + t : Nat) : Int) < hiv) = true := decide_eq_true (by have := HHI.out; omega)
   have g1' : decide ((low : Int) + (t : Int) < hiv) = true := decide_eq_true (by have := HHI.out; omega)
   have hln : ss.length = xs.length := HR1.out.len
   obtain ⟨hol1, hol2, hol3⟩ := HOL.out t (by omega)
   have hol4 := HOL.out (t + 1) (by omega)
   rcases HOS.out t ht with ⟨hbit, ho1, hcall⟩ | ⟨hbit, ho1, hcall⟩
   ·have g2 : (Go.bits .and .u64 (ix t) 1 == 0) = false := by rw [hbit]; rfl
    have HO1 := Aside0.mk ho1
    obtain ⟨m, hm⟩ : ∃ m, m = ss.length - 1 - o t := ⟨_, rfl⟩
    have hml : m < ss.length := by omega
    have hidx : wrap64 (((ss.length - o t : Nat) : Int) - 1) = (m : Int) := by
     have := HN.out
     unfold wrap64; omega
    obtain ⟨g0, cc, e0, hg0⟩ := kSH_form (s := (A, ss.length, c)) HR1.out.row (by omega)
    simp only [Prod.mk.injEq] at e0
    obtain ⟨rfl, -, rfl⟩ := e0
    obtain ⟨⟨Am, nm, cm⟩, hsm⟩ : ∃ s, ss[m]? = some s := ⟨_, List.getElem?_eq_getElem hml⟩
    obtain ⟨xm, hxm⟩ : ∃ x, xs[m]? = some x := ⟨_, List.getElem?_eq_getElem (by omega)⟩
    have x1 : wr.cell? ⟨g0, m, none⟩ = some (.slice Am nm cm) := (kSH_cell HR1.out.row hsm).1
    obtain ⟨rfl, hy2, hy3⟩ := (HR1.out.txt m _ _ hsm hxm).read
    obtain ⟨rfl, hx2, hx3⟩ := HS1.out.read
    rw [← hln, ← hm, List.getD_eq_getElem?_getD, hxm, Option.getD_some] at hcall
    have d0 : 0 ≤ (m : Int) := by omega
    have d1 : (m : Int) < (ss.length : Int) := by omega
    have d2 : decide ((m : Int) < (ss.length : Int)) = true := decide_eq_true d1
    have d3 : decide (m < ss.length) = true := decide_eq_true hml
    have y0 : wr.cell? ⟨p, 0, none⟩ = some (.pointer (some ⟨fq, 0, none⟩)) := blk_cell HR1.out.cell 0
    have y3 : wr.cell? ⟨p, 3, none⟩ = some (.slice (some ⟨g0, 0, none⟩) ss.length c) := blk_cell HR1.out.cell 3
    have y4 : wr.cell? ⟨fq, 0, none⟩ = some (.func (.func 50) #[toyV a0 a1 a2 a3 a4 a5] #[]) := blk_cell HR1.out.fac 0
    have HY2 := Aside0.mk hy2
    have HY3 := Aside0.mk hy3
    have HX2 := Aside0.mk hx2
    have HX3 := Aside0.mk hx3
    have HCL := Aside0.mk hcall
    have HTD := Aside0.mk ht
    have HL0 := Aside0.mk (show p < wr.heap.size from blk_lt HR1.out.cell)
    have HL1 := Aside0.mk (show fq < wr.heap.size from blk_lt HR1.out.fac)
    have HL2 := Aside0.mk (show g0 < wr.heap.size from World.block_lt_of_cell? _ _ x1)
    have HMM := Aside0.mk hm
    clear hy2 hy3 hx2 hx3 hcall ht hg0 hsm hxm hm hln hbit hol1 hol2 hol3 hol4 ho1
    go_wp2_with (fail)
    go_region_held_law (fun w' => w'.cell? ⟨p, 0, none⟩ = some (.pointer (some ⟨fq, 0, none⟩)) ∧ w'.cell? ⟨p, 3, none⟩ = some (.slice (some ⟨g0, 0, none⟩) ss.length c) ∧ w'.cell? ⟨fq, 0, none⟩ = some (.func (.func 50) #[toyV a0 a1 a2 a3 a4 a5] #[]) ∧ w'.cell? ⟨g0, m, none⟩ = some (.slice Am xm.length cm)) (first | exact ⟨u0, u3, u4, u5⟩ | exact ⟨y0, y3, y4, x1⟩ | go_keep) (first
     | (
      go_simp; go_at_call 50
      refine (impl_toy_HashChildren.calls k a0 a1 a2 a3 a4 a5 Am cm xm A1 c1 (sds t) (sds (t + 1)) _ ?s1 HY2.out ?s3 HX2.out HCL.out).mono ?_
      (case s1 => repeat (first | exact HY3.out | (refine Kd.C_drewN ?_ _) | (refine Kd.C_drew ?_)))
      (case s3 => repeat (first | exact HX3.out | (refine Kd.C_drewN ?_ _) | (refine Kd.C_drew ?_)))
      rintro e w4 ⟨v4, rfl, hR4, hb4⟩
      have HB4 := Aside0.mk (show Below wr.heap.size wr w4 from below_step (by repeat (first | exact Below.refl _ _ | apply Below.drew | apply pw_below_drewN | apply below_drew)) hb4)
      have HR4 := Aside0.mk hR4
      have u0 := (HB4.out.cell (p := ⟨p, 0, none⟩) HL0.out).trans y0
      have u3 := (HB4.out.cell (p := ⟨p, 3, none⟩) HL0.out).trans y3
      have u4 := (HB4.out.cell (p := ⟨fq, 0, none⟩) HL1.out).trans y4
      have u5 := (HB4.out.cell (p := ⟨g0, m, none⟩) HL2.out).trans x1
      clear hR4 hb4)
     | fail)
    replace HR1 := Aside0.mk (HR1.out.below HB4.out)
    replace HQ1 := Aside0.mk (blk_below HQ1.out HB4.out)
    replace HV1 := Aside0.mk (Kd.S_below HV1.out HB4.out)
    replace HY1 := Aside0.mk (Kd.R_below HY1.out HB4.out)
    replace HYT1 := Aside0.mk (show ∀ (j : Nat) (s : SH) (x : List Int), rr[j]? = some s → ys[j]? = some x → Txt tb w4 s x from fun j s x h1 h2 => (HYT1.out j s x h1 h2).pres (Pres5.below HB4.out))
    have hsz : tb ≤ wr.heap.size := Nat.le_trans HTB.out HVs.out.size
    replace HBB := Aside0.mk (show ∀ B, B ≤ tb → B ≤ q → Below B w w4 from fun B h1 h2 => (HBB.out B h1 h2).trans (HB4.out.mono (Nat.le_trans h1 hsz)))
    replace HVs := Aside0.mk (HVs.out.trans (Vs.of HB4.out))
    obtain ⟨⟨A4, n4, c4⟩, e4⟩ := kSH_val' HR4.out
    subst e4
    have HT4 := Aside0.mk (Txt.of_R HR4.out hsz)
    clear y0 y3 y4 x1 u0 u3 u4 u5 HR4 HB4 HS1 HL0 HL1 HL2 HY2 HY3 HX2 HX3 HCL d0 d1 d2 d3 hidx hml hsz g1 g1' g2
    have hnq := fun W => neq_nil 53 q W
    have hwr : IntKind.u64.wrap ((low : Int) + (t : Int) + 1) = ((low + t + 1 : Nat) : Int) := (congrArg IntKind.u64.wrap (by omega : (low : Int) + (t : Int) + 1 = ((low + t + 1 : Nat) : Int))).trans (Go.Proofs.YtielnphmcaecdaaDoor.Num.u64in (by have := HD.out; have := HTD.out; omega))
    have hwr2 : IntKind.u64.wrap (((low + t : Nat) : Int) + 1) = ((low + t + 1 : Nat) : Int) := (congrArg IntKind.u64.wrap (by omega : ((low + t : Nat) : Int) + 1 = ((low + t + 1 : Nat) : Int))).trans (Go.Proofs.YtielnphmcaecdaaDoor.Num.u64in (by have := HD.out; have := HTD.out; omega))
    obtain ⟨rfl, ht2, ht3⟩ := HT4.out.read
    have HT2 := Aside0.mk ht2
    have HT3 := Aside0.mk ht3
    clear ht2 ht3
    dsimp only [shE]
    go_step
    try simp [Act.put]
    try go_step
    go_wp2_with (fail)
    refine (newNode.calls _ _ _).mono ?_
    rintro e w5 ⟨rfl, hb5⟩
    dsimp only
    replace HR1 := Aside0.mk (HR1.out.below hb5)
    replace HQ1 := Aside0.mk (blk_below HQ1.out hb5)
    replace HV1 := Aside0.mk (Kd.S_below HV1.out hb5)
    replace HY1 := Aside0.mk (Kd.R_below HY1.out hb5)
    replace HYT1 := Aside0.mk (show ∀ (j : Nat) (s : SH) (x : List Int), rr[j]? = some s → ys[j]? = some x → Txt tb w5 s x from fun j s x h1 h2 => (HYT1.out j s x h1 h2).pres (Pres5.below hb5))
    replace HT4 := Aside0.mk (HT4.out.pres (Pres5.below hb5))
    replace HT3 := Aside0.mk (Kd.C_below HT3.out hb5)
    have hsz : tb ≤ w4.heap.size := Nat.le_trans HTB.out HVs.out.size
    replace HBB := Aside0.mk (show ∀ B, B ≤ tb → B ≤ q → Below B w w5 from fun B h1 h2 => (HBB.out B h1 h2).trans (hb5.mono (Nat.le_trans h1 hsz)))
    replace HVs := Aside0.mk (HVs.out.trans (Vs.of hb5))
    clear hb5 hsz
    go_wp2_with (fail)
    have hsz : tb ≤ w5.heap.size := Nat.le_trans HTB.out HVs.out.size
    refine (seen53.calls _ _ A4 c4 (sds (t + 1)) tb q SV1 _ _ hsz HQ1.out HV1.out HT3.out HT2.out (by have := HVS.out; have := HTD.out; have := HD.out; rw [List.length_append]; unfold visA; rw [List.length_map, List.length_range]; omega) (HSL.out _ HTD.out)).mono ?_
    rintro e w6 ⟨rfl, SV6, hq6, hS6, hbb6, hvs6⟩
    have HQ6 := Aside0.mk hq6
    have HS6 := Aside0.mk hS6
    have HR6 := Aside0.mk (HR1.out.vs hvs6 HQ1.out)
    have HY6 := Aside0.mk (hvs6.rw HQ1.out HY1.out)
    have HYT6 := Aside0.mk (show ∀ (j : Nat) (s : SH) (x : List Int), rr[j]? = some s → ys[j]? = some x → Txt tb w6 s x from fun j s x h1 h2 => (HYT1.out j s x h1 h2).pres (hvs6.pres HQ1.out))
    have HT6 := Aside0.mk (HT4.out.pres (hvs6.pres HQ1.out))
    have HVs6 := Aside0.mk (HVs.out.trans hvs6)
    have HBB6 := Aside0.mk (show ∀ B, B ≤ tb → B ≤ q → Below B w w6 from fun B h1 h2 => (HBB.out B h1 h2).trans (hbb6 B h1 h2))
    clear hq6 hS6 hbb6 hvs6 hsz HR1 HT4 HVs HBB HQ1 HV1 HY1 HYT1
    dsimp only
    go_wp2
    go_roundg k1
    case measure => omega
    case rel =>
     refine ⟨t + 1, (A4, (sds (t + 1)).length, c4), SV6, rfl, ?_, ?_, ?_, ?_, ⟨by have := HI.out; omega⟩, HT6, HQ6, ⟨?_⟩, HR6, HY6, HYT6, HVs6, HBB6⟩
     ·rw [HIS.out t HTD.out]
     ·rw [HMM.out, HO1.out]; congr 2; omega
     ·rw [HO1.out]; congr 2; omega
     ·congr 1
     ·rw [visA_succ, ← List.append_assoc, HIS.out t HTD.out]
      have h := HS6.out
      rwa [show ((low : Int) + (t : Int) + 1) = ((low + t + 1 : Nat) : Int) by omega] at h
   ·have g2 : (Go.bits .and .u64 (ix t) 1 == 0) = true := by rw [hbit]; rfl
    have HO1 := Aside0.mk ho1
    obtain ⟨m, hm⟩ : ∃ m, m = t - o t := ⟨_, rfl⟩
    have hml : m < rr.length := by have := HYL.out; omega
    have hcy := (Kd.R_reads' HY1.out).2.1
    have hA1 : Ar = some ⟨gy, 1, none⟩ := by rw [HAR.out, if_neg (by omega)]; rfl
    subst hA1
    obtain ⟨⟨Am, nm, cm⟩, hsm⟩ : ∃ s, rr[m]? = some s := ⟨_, List.getElem?_eq_getElem hml⟩
    obtain ⟨xm, hxm⟩ : ∃ x, ys[m]? = some x := ⟨_, List.getElem?_eq_getElem (by have := HYL.out; omega)⟩
    have x1 : wr.cell? ⟨gy, 1 + m, none⟩ = some (.slice Am nm cm) := by
     have := (kSH_cell HY1.out (i := m + 1) (x := (Am, nm, cm)) (by rw [List.getElem?_cons_succ]; exact hsm)).1
     rw [Nat.add_comm 1 m]; exact this
    obtain ⟨rfl, hy2, hy3⟩ := (HYT1.out m _ _ hsm hxm).read
    obtain ⟨rfl, hx2, hx3⟩ := HS1.out.read
    rw [← hm, List.getD_eq_getElem?_getD, hxm, Option.getD_some] at hcall
    have d0 : 0 ≤ (m : Int) := by omega
    have d1 : (m : Int) < (rr.length : Int) := by omega
    have d2 : decide ((m : Int) < (rr.length : Int)) = true := decide_eq_true d1
    have d3 : decide (m < rr.length) = true := decide_eq_true hml
    have y0 : wr.cell? ⟨p, 0, none⟩ = some (.pointer (some ⟨fq, 0, none⟩)) := blk_cell HR1.out.cell 0
    have y4 : wr.cell? ⟨fq, 0, none⟩ = some (.func (.func 50) #[toyV a0 a1 a2 a3 a4 a5] #[]) := blk_cell HR1.out.fac 0
    have HY2 := Aside0.mk hy2
    have HY3 := Aside0.mk hy3
    have HX2 := Aside0.mk hx2
    have HX3 := Aside0.mk hx3
    have HCL := Aside0.mk hcall
    have HTD := Aside0.mk ht
    have HL0 := Aside0.mk (show p < wr.heap.size from blk_lt HR1.out.cell)
    have HL1 := Aside0.mk (show fq < wr.heap.size from blk_lt HR1.out.fac)
    have HL2 := Aside0.mk (show gy < wr.heap.size from World.block_lt_of_cell? _ _ x1)
    have HMM := Aside0.mk hm
    clear hy2 hy3 hx2 hx3 hcall ht hsm hxm hln hbit hol1 hol2 hol3 hol4 ho1 hcy
    rw [← hm]
    clear hm
    go_wp2_with (fail)
    go_region_held_law (fun w' => w'.cell? ⟨p, 0, none⟩ = some (.pointer (some ⟨fq, 0, none⟩)) ∧ w'.cell? ⟨fq, 0, none⟩ = some (.func (.func 50) #[toyV a0 a1 a2 a3 a4 a5] #[]) ∧ w'.cell? ⟨gy, 1 + m, none⟩ = some (.slice Am xm.length cm)) (first | exact ⟨u0, u4, u5⟩ | exact ⟨y0, y4, x1⟩ | go_keep) (first
     | (
      go_simp; go_at_call 50
      refine (impl_toy_HashChildren.calls k a0 a1 a2 a3 a4 a5 A1 c1 (sds t) Am cm xm (sds (t + 1)) _ ?s1 HX2.out ?s3 HY2.out HCL.out).mono ?_
      (case s1 => repeat (first | exact HX3.out | (refine Kd.C_drewN ?_ _) | (refine Kd.C_drew ?_)))
      (case s3 => repeat (first | exact HY3.out | (refine Kd.C_drewN ?_ _) | (refine Kd.C_drew ?_)))
      rintro e w4 ⟨v4, rfl, hR4, hb4⟩
      have HB4 := Aside0.mk (show Below wr.heap.size wr w4 from below_step (by repeat (first | exact Below.refl _ _ | apply Below.drew | apply pw_below_drewN | apply below_drew)) hb4)
      have HR4 := Aside0.mk hR4
      have u0 := (HB4.out.cell (p := ⟨p, 0, none⟩) HL0.out).trans y0
      have u4 := (HB4.out.cell (p := ⟨fq, 0, none⟩) HL1.out).trans y4
      have u5 := (HB4.out.cell (p := ⟨gy, 1 + m, none⟩) HL2.out).trans x1
      clear hR4 hb4)
     | fail)
    replace HR1 := Aside0.mk (HR1.out.below HB4.out)
    replace HQ1 := Aside0.mk (blk_below HQ1.out HB4.out)
    replace HV1 := Aside0.mk (Kd.S_below HV1.out HB4.out)
    replace HY1 := Aside0.mk (Kd.R_below HY1.out HB4.out)
    replace HYT1 := Aside0.mk (show ∀ (j : Nat) (s : SH) (x : List Int), rr[j]? = some s → ys[j]? = some x → Txt tb w4 s x from fun j s x h1 h2 => (HYT1.out j s x h1 h2).pres (Pres5.below HB4.out))
    have hsz : tb ≤ wr.heap.size := Nat.le_trans HTB.out HVs.out.size
    replace HBB := Aside0.mk (show ∀ B, B ≤ tb → B ≤ q → Below B w w4 from fun B h1 h2 => (HBB.out B h1 h2).trans (HB4.out.mono (Nat.le_trans h1 hsz)))
    replace HVs := Aside0.mk (HVs.out.trans (Vs.of HB4.out))
    obtain ⟨⟨A4, n4, c4⟩, e4⟩ := kSH_val' HR4.out
    subst e4
    have HT4 := Aside0.mk (Txt.of_R HR4.out hsz)
    clear y0 y4 x1 u0 u4 u5 HR4 HB4 HS1 HL0 HL1 HL2 HY2 HY3 HX2 HX3 HCL d0 d1 d2 d3 hml hsz g1 g1' g2
    have hnq := fun W => neq_nil 53 q W
    have hwr : IntKind.u64.wrap ((low : Int) + (t : Int) + 1) = ((low + t + 1 : Nat) : Int) := (congrArg IntKind.u64.wrap (by omega : (low : Int) + (t : Int) + 1 = ((low + t + 1 : Nat) : Int))).trans (Go.Proofs.YtielnphmcaecdaaDoor.Num.u64in (by have := HD.out; have := HTD.out; omega))
    have hwr2 : IntKind.u64.wrap (((low + t : Nat) : Int) + 1) = ((low + t + 1 : Nat) : Int) := (congrArg IntKind.u64.wrap (by omega : ((low + t : Nat) : Int) + 1 = ((low + t + 1 : Nat) : Int))).trans (Go.Proofs.YtielnphmcaecdaaDoor.Num.u64in (by have := HD.out; have := HTD.out; omega))
    obtain ⟨rfl, ht2, ht3⟩ := HT4.out.read
    have HT2 := Aside0.mk ht2
    have HT3 := Aside0.mk ht3
    clear ht2 ht3
    dsimp only [shE]
    go_step
    try simp [Act.put]
    try go_step
    go_wp2_with (fail)
    refine (newNode.calls _ _ _).mono ?_
    rintro e w5 ⟨rfl, hb5⟩
    dsimp only
    replace HR1 := Aside0.mk (HR1.out.below hb5)
    replace HQ1 := Aside0.mk (blk_below HQ1.out hb5)
    replace HV1 := Aside0.mk (Kd.S_below HV1.out hb5)
    replace HY1 := Aside0.mk (Kd.R_below HY1.out hb5)
    replace HYT1 := Aside0.mk (show ∀ (j : Nat) (s : SH) (x : List Int), rr[j]? = some s → ys[j]? = some x → Txt tb w5 s x from fun j s x h1 h2 => (HYT1.out j s x h1 h2).pres (Pres5.below hb5))
    replace HT4 := Aside0.mk (HT4.out.pres (Pres5.below hb5))
    replace HT3 := Aside0.mk (Kd.C_below HT3.out hb5)
    have hsz : tb ≤ w4.heap.size := Nat.le_trans HTB.out HVs.out.size
    replace HBB := Aside0.mk (show ∀ B, B ≤ tb → B ≤ q → Below B w w5 from fun B h1 h2 => (HBB.out B h1 h2).trans (hb5.mono (Nat.le_trans h1 hsz)))
    replace HVs := Aside0.mk (HVs.out.trans (Vs.of hb5))
    clear hb5 hsz
    go_wp2_with (fail)
    have hsz : tb ≤ w5.heap.size := Nat.le_trans HTB.out HVs.out.size
    refine (seen53.calls _ _ A4 c4 (sds (t + 1)) tb q SV1 _ _ hsz HQ1.out HV1.out HT3.out HT2.out (by have := HVS.out; have := HTD.out; have := HD.out; rw [List.length_append]; unfold visA; rw [List.length_map, List.length_range]; omega) (HSL.out _ HTD.out)).mono ?_
    rintro e w6 ⟨rfl, SV6, hq6, hS6, hbb6, hvs6⟩
    have HQ6 := Aside0.mk hq6
    have HS6 := Aside0.mk hS6
    have HR6 := Aside0.mk (HR1.out.vs hvs6 HQ1.out)
    have HY6 := Aside0.mk (hvs6.rw HQ1.out HY1.out)
    have HYT6 := Aside0.mk (show ∀ (j : Nat) (s : SH) (x : List Int), rr[j]? = some s → ys[j]? = some x → Txt tb w6 s x from fun j s x h1 h2 => (HYT1.out j s x h1 h2).pres (hvs6.pres HQ1.out))
    have HT6 := Aside0.mk (HT4.out.pres (hvs6.pres HQ1.out))
    have HVs6 := Aside0.mk (HVs.out.trans hvs6)
    have HBB6 := Aside0.mk (show ∀ B, B ≤ tb → B ≤ q → Below B w w6 from fun B h1 h2 => (HBB.out B h1 h2).trans (hbb6 B h1 h2))
    clear hq6 hS6 hbb6 hvs6 hsz HR1 HT4 HVs HBB HQ1 HV1 HY1 HYT1
    dsimp only
    go_wp2
    go_roundg k1
    case measure => omega
    case rel =>
     refine ⟨t + 1, (A4, (sds (t + 1)).length, c4), SV6, rfl, ?_, ?_, ?_, ?_, ⟨by have := HI.out; omega⟩, HT6, HQ6, ⟨?_⟩, HR6, HY6, HYT6, HVs6, HBB6⟩
     ·rw [HIS.out t HTD.out]
     ·rw [HO1.out]
     ·rw [HO1.out, HMM.out, w64n (b := t + 1 - o t) (by have := (HOL.out t (by have := HTD.out; omega)).1; omega) (by have := HD.out; have := HTD.out; omega)]
     ·congr 1
     ·rw [visA_succ, ← List.append_assoc, HIS.out t HTD.out]
      have h := HS6.out
      rwa [show ((low : Int) + (t : Int) + 1) = ((low + t + 1 : Nat) : Int) by omega] at h
theorem appendMixNone.calls (k : Nat) (a0 a1 a2 a3 a4 a5 : Int) (tb p fq q : Nat) (b e en : Int) (low : Nat) (hiv : Int) (A : Option Addr) (c : Nat) (ss : List SH) (xs : List (List Int)) (As : Option Addr) (ns cs : Nat) (SV : Value) (vs : List S51) (sds : List Int) (gy cy : Nat) (s0 : SH) (rr : List SH) (ys : List (List Int)) (Ar : Option Addr) (w : World)
 (hG : Glob w) (htb : tb ≤ w.heap.size) (R : RgAt w tb p fq a0 a1 a2 a3 a4 a5 b e A c ss xs) (hs : Txt tb w (As, ns, cs) sds) (hq : w.heap[q]? = some (.cells #[SV] 36 (0, 0))) (hS : Kd.S k51 51 w tb (fun _ => True) SV vs)
 (hmp : compact_getMergePath.f k b e en = some ((low : Int), hiv)) (hhi : hiv < (low : Int)) (hD64 : low ≤ 64)
 (Y : Rw w tb (.slice (some ⟨gy, 0, none⟩) (rr.length + 1) cy) (s0 :: rr)) (hyl : rr.length = ys.length) (hyt : ∀ (j : Nat) (s : SH) (x : List Int), rr[j]? = some s → ys[j]? = some x → Txt tb w s x) (hap : some gy ≠ (Value.slice A ss.length c).ownBlock) (hAr : Ar = (if cy = 1 then (some ⟨gy, 0, none⟩ : Option Addr) else (some ⟨gy, 0, none⟩ : Option Addr).map (·.add (1 * 1))))
 (hyn : ys.length < 1099511627776)
 (hones : bits_OnesCount64.f (Go.bits .and .u64 (e / 2 ^ min low 64) 0) = some 0)
 (hn : xs.length < 1099511627776) :
 Calls Tryd.prog 90 #[.pointer (some ⟨p, 0, none⟩), .int .u64 en, .slice As ns cs, .slice Ar rr.length (cy - 1), .func (.func 53) #[] #[.pointer (some ⟨q, 0, none⟩)]] w fun ex w' => ex = .returned .nilIface ∧ Appd w w' tb p fq q a0 a1 a2 a3 a4 a5 b en A c ss.length (xs ++ [sds] ++ ys) vs := by
 have HG := Aside0.mk hG
 have HTB := Aside0.mk htb
 have HR := Aside0.mk R
 have HS := Aside0.mk hs
 have HQ := Aside0.mk hq
 have HV := Aside0.mk hS
 have HMP := Aside0.mk hmp
 have HON := Aside0.mk hones
 have g1 : decide (hiv < (low : Int)) = true := decide_eq_true hhi
 have hln := R.len
 have HY := Aside0.mk Y
 have HYL := Aside0.mk hyl
 have HYT := Aside0.mk hyt
 have HAPT := Aside0.mk hap
 have HAR := Aside0.mk hAr
 have HYN := Aside0.mk hyn
 have HHI := Aside0.mk hhi
 have HD := Aside0.mk hD64
 have HN := Aside0.mk hn
 have y0 : w.cell? ⟨p, 0, none⟩ = some (.pointer (some ⟨fq, 0, none⟩)) := blk_cell R.cell 0
 have y1 : w.cell? ⟨p, 1, none⟩ = some (.int .u64 b) := blk_cell R.cell 1
 have y2 : w.cell? ⟨p, 2, none⟩ = some (.int .u64 e) := blk_cell R.cell 2
 have y3 : w.cell? ⟨p, 3, none⟩ = some (.slice A ss.length c) := blk_cell R.cell 3
 clear hones hln hG htb R hs hq hS hmp hhi hD64 hn Y hyl hyt hap hAr hyn
 go_enter Tryd.func90, Tryd.ntmps90
 go_wp2_with (fail)
 go_region_held_law (fun w' => w'.cell? ⟨p, 1, none⟩ = some (.int .u64 b) ∧ w'.cell? ⟨p, 2, none⟩ = some (.int .u64 e)) (first | exact ⟨y1, y2⟩ | go_keep) (first
  | (
   go_simp; go_at_call 111
   refine (compact_getMergePath.calls k b e en low hiv _ (HG.out.below (by repeat (first | exact Below.refl _ _ | apply Below.drew | apply below_drew))) HMP.out).mono ?_
   rintro ex wq ⟨rfl, hd⟩
   obtain ⟨⟨nd, rfl⟩⟩ := hd)
  | fail)
 go_wp2_with (fail)
 refine (bits_OnesCount64.calls _ 0 _ HON.out).mono ?_
 rintro ex wq ⟨rfl, hd⟩
 obtain ⟨⟨nd2, rfl⟩⟩ := hd
 dsimp only
 go_wp2_with (fail)
 have hbd : Below w.heap.size w (w.drewN (1 + nd + nd2)) := pw_below_drewN (Below.refl _ _) _
 have HR1 := Aside0.mk (HR.out.below hbd)
 have HS1 := Aside0.mk (HS.out.pres (Pres5.below hbd))
 have HQ1 := Aside0.mk (blk_below HQ.out hbd)
 have HV1 := Aside0.mk (Kd.S_below HV.out hbd)
 have HY1 := Aside0.mk (Kd.R_below HY.out hbd)
 have HYT1 := Aside0.mk (show ∀ (j : Nat) (s : SH) (x : List Int), rr[j]? = some s → ys[j]? = some x → Txt tb _ s x from fun j s x h1 h2 => (HYT.out j s x h1 h2).pres (Pres5.below hbd))
 have HVs := Aside0.mk (Vs.of (q := q) hbd)
 have HBB := Aside0.mk (show ∀ B, B ≤ tb → B ≤ q → Below B w (w.drewN (1 + nd + nd2)) from fun B h _ => hbd.mono (Nat.le_trans h HTB.out))
 generalize w.drewN (1 + nd + nd2) = W at hbd HR1 HS1 HQ1 HV1 HVs HBB HY1 HYT1 ⊢
 clear y0 y1 y2 y3 HS HQ HV HMP HON g1 hbd HY HYT
 go_loopg [2, 13, 18, 19, 20] 0 (fun kq v2 v13 v18 v19 v20 w' => ∃ (SV' : Value), v2 = .slice As ns cs ∧ v18 = .int .i64 (ss.length : Int) ∧ v19 = .int .i64 0 ∧ v20 = .int .u64 (low : Int) ∧ Aside0 (0 = kq) ∧ Aside0 (Txt tb w' (As, ns, cs) sds) ∧ Aside0 (w'.heap[q]? = some (.cells #[SV'] 36 (0, 0))) ∧ Aside0 (Kd.S k51 51 w' tb (fun _ => True) SV' vs) ∧ Aside0 (RgAt w' tb p fq a0 a1 a2 a3 a4 a5 b e A c ss xs) ∧ Aside0 (Rw w' tb (.slice (some ⟨gy, 0, none⟩) (rr.length + 1) cy) (s0 :: rr)) ∧ Aside0 (∀ (j : Nat) (s : SH) (x : List Int), rr[j]? = some s → ys[j]? = some x → Txt tb w' s x) ∧ Aside0 (Vs q w w') ∧ Aside0 (∀ B, B ≤ tb → B ≤ q → Below B w w'))
 case atStart => exact ⟨SV, rfl, rfl, rfl, rfl, ⟨rfl⟩, HS1, HQ1, HV1, HR1, HY1, HYT1, HVs, HBB⟩
 case round =>
  clear HR1 HS1 HQ1 HV1 HVs HBB HY1 HYT1
  obtain ⟨SV1, rfl, rfl, rfl, rfl, HI, HS1, HQ1, HV1, HR1, HY1, HYT1, HVs, HBB⟩ := hrel
  cases gk with
  | zero =>
   have g1 : decide ((low : Int) < (low : Int)) = false := decide_eq_false (by omega)
   have hln : ss.length = xs.length := HR1.out.len
   obtain ⟨i0, hi0, _, hsz, _⟩ := info_parts info27
   have hRR := Kd.R_reads' HR1.out.row
   have hcut := cut_to (P := Tryd.prog) 25 27 .i64 Tryd.underlying25 hi0 A ss.length c (ss.length : Int) (by omega) (by omega) hRR.2.1
   rw [Int.toNat_natCast] at hcut
   have hcut2 := cut_from (P := Tryd.prog) 25 27 .i64 Tryd.underlying25 hi0 1 hsz Ar rr.length (cy - 1) (0 : Int) (by omega) (by omega)
   rw [show (0 : Int).toNat = 0 from rfl] at hcut2
   obtain ⟨A9, hA9⟩ : ∃ A9, A9 = (if cy - 1 = 0 then Ar else (Ar : Option Addr).map (·.add ((0) * 1))) := ⟨_, rfl⟩
   obtain ⟨n9, hn9⟩ : ∃ n9, n9 = rr.length - (0) := ⟨_, rfl⟩
   obtain ⟨c9, hc9⟩ : ∃ c9, c9 = cy - 1 - (0) := ⟨_, rfl⟩
   rw [← hA9, ← hn9, ← hc9] at hcut2
   have HA9 := Aside0.mk hA9
   have HN9 := Aside0.mk hn9
   have HC9 := Aside0.mk hc9
   clear hA9 hn9 hc9
   have hRT := Kd.R_take (m := ss.length) HR1.out.row (by omega)
   have y3 : wr.cell? ⟨p, 3, none⟩ = some (.slice A ss.length c) := blk_cell HR1.out.cell 3
   have z3 : ∀ o, (wr.alloc o).cell? ⟨p, 3, none⟩ = some (.slice A ss.length c) := fun o => (World.cell?_alloc_lt _ _ _ (blk_lt HR1.out.cell)).trans y3
   have HRT := Aside0.mk hRT
   have HSZ := Aside0.mk (show tb ≤ wr.heap.size from Nat.le_trans HTB.out HVs.out.size)
   have HLN := Aside0.mk hln
   clear hRR hRT hi0 hsz hln
   go_wp2_with (fail)
   go_region_law (first
    | (
     refine Kd.R_append_step kSH (w0 := wr) (W := wr.drew) tb ?hw (.tmp 137) (.tmp 139) 25 27 (.slice none 0 0) 24 rfl Tryd.underlying25 info27 rfl (by decide) (by omega) (.slice A (ss.length) c) (ss.take (ss.length - 0)) (As, ns, cs) [.slice As ns cs] (fun _ => True) (fun _ => False) rfl rfl ?aP (fun _ h => h.elim) ?aF ?aO ?aB ?aS ?aL ?_
     (case hw => simp [Region.wanted])
     (case aP => rfl)
     (case aF => exact fun _ _ => trivial)
     (case aO => repeat (first | exact HRT.out | (refine Kd.R_alloc ?_ _) | (refine Kd.R_drewN ?_ _) | (refine Kd.R_drew ?_)))
     (case aB => repeat (first | exact Below.refl _ _ | apply Below.drew | apply below_drew))
     (case aS => exact Nat.le_trans HSZ.out (below_size (show Below wr.heap.size wr _ by repeat (first | exact Below.refl _ _ | apply Below.drew | apply below_drew))))
     (case aL => have := HN.out; have := HLN.out; rw [List.length_take]; omega)
     intro v1 w1 hR1 hB1 hg1 hat1
     obtain ⟨A5, n5, c5, rfl, hn5⟩ : ∃ A n c, v1 = .slice A n c ∧ n = (ss.take (ss.length - 0) ++ [(As, ns, cs)]).length := by
      obtain ⟨A, c, h⟩ := Kd.R_slice hR1
      exact ⟨A, _, c, h, rfl⟩
     have HN5 := Aside0.mk hn5
     have HR5 := Aside0.mk hR1
     have HB5 := Aside0.mk hB1
     have HG5 := Aside0.mk (grown_from (show Below wr.heap.size wr wr.drew from below_drew (Below.refl _ _)) hg1)
     have HAT5 := Aside0.mk (hat_from (show Below wr.heap.size wr wr.drew from below_drew (Below.refl _ _)) hat1)
     have HY5 := Aside0.mk (show Rw w1 tb (.slice (some ⟨gy, 0, none⟩) (rr.length + 1) cy) (s0 :: rr) from Kd.R_mono (Kd.R_grown (Kd.R_tight rfl HY1.out) HG5.out (fun k hk e2 => HAPT.out (by rw [← e2]; exact hk.symm))) (fun _ _ => trivial))
     have HC5 := Aside0.mk (show Kd.C kSH w1 A9 n9 (rr.drop (0)) from by
      have q1 := Kd.R_reads' HY5.out
      have q2 := Kd.C_drop (m := 1) (c := cy) q1.2.2 (by simp) q1.2.1
      replace q2 : Kd.C kSH w1 Ar rr.length rr := by rw [HAR.out]; exact q2
      have q3 := Kd.C_drop (m := 0) (c := cy - 1) q2 (by simp) (by have := q1.2.1; simp; omega)
      rw [HA9.out, HN9.out, ← List.length_drop]
      exact q3)
     clear hR1 hB1 hg1 hat1 hn5)
    | (
     refine Kd.R_append_rows_step kSH (w0 := wr) (W := w1) tb ?hw (.tmp 140) (.tmp 143) 25 27 (.slice none 0 0) 24 rfl Tryd.underlying25 info27 rfl (by decide) (by omega) (.slice A5 n5 c5) (ss.take (ss.length - 0) ++ [(As, ns, cs)]) (rr.drop (0)) A9 n9 c9 (fun _ => True) (fun _ => False) rfl rfl ?aO HC5.out (fun _ _ h => h) (fun _ h => h.elim) ?aF ?aB ?aS ?aL ?_
     (case hw => simp [Region.wanted])
     (case aO => exact HR5.out)
     (case aF => exact fun _ _ => trivial)
     (case aB => exact HB5.out)
     (case aS => exact Nat.le_trans HSZ.out (HG5.out.size))
     (case aL => have := HN.out; have := HLN.out; have := HN9.out; have := HYN.out; have := HYL.out; simp only [List.length_append, List.length_take, List.length_singleton]; omega)
     intro v2 w2 hR2 hB2 hg2 hat2
     obtain ⟨A6, n6, c6, rfl, hn6⟩ : ∃ A n c, v2 = .slice A n c ∧ n = (ss.take (ss.length - 0) ++ [(As, ns, cs)] ++ rr.drop (0)).length := by
      obtain ⟨A, c, h⟩ := Kd.R_slice hR2
      exact ⟨A, _, c, h, rfl⟩
     have HN6 := Aside0.mk hn6
     have HR6 := Aside0.mk hR2
     have HB6 := Aside0.mk hB2
     have HG6 := Aside0.mk (grown_two HG5.out HAT5.out hg2)
     have HAT6 := Aside0.mk (hat_two HG5.out.size HAT5.out hat2)
     have hpc := blk_grown HR1.out.cell HG6.out (fun e => by obtain ⟨d, hd⟩ := Kd.R_typed HR1.out.row p e.symm; exact ty_ne HR1.out.cell hd (by decide) rfl)
     have f3 : w2.frozen? ⟨p, 3, none⟩ = false := blk_frozen hpc 3
     have f2 : w2.frozen? ⟨p, 2, none⟩ = false := blk_frozen hpc 2
     have y3_ : w2.cell? ⟨p, 3, none⟩ = some (.slice A ss.length c) := blk_cell hpc 3
     have y2_ : w2.cell? ⟨p, 2, none⟩ = some (.int .u64 e) := blk_cell hpc 2
     clear hR2 hB2 hg2 hat2 hpc hn6)
    | fail)
   all_goals
    go_wp2_with (fail)
    go_ret
    have hend := app_end2 (D := 0) (en := en) HN6.out HTB.out HR1.out HS1.out (by rw [List.length_drop, List.length_drop, HYL.out]) (fun j s x h1 h2 => by rw [List.getElem?_drop] at h1 h2; exact HYT1.out _ s x h1 h2) HQ1.out HV1.out HVs.out HBB.out HR6.out HG6.out HAT6.out HB6.out
    rw [Nat.sub_zero, List.take_length, List.drop_zero] at hend
    exact ⟨rfl, hend⟩
  | succ k1 => exact absurd HI.out (by omega)
end Go.Proofs.YtielnphmcaecdaaDoor.PAll
namespace Go.Proofs.YtielnphmcaecdaaDoor.PAll
open Go.RowKit Go.Proofs.YtielnphmcaecdaaDoorW.PrintWords Go.Proofs.YtielnphmcaecdaaDoorW.PrintLast Go.Proofs.YtielnphmcaecdaaDoorW.PrintMore
theorem k99_cell {W : World} {base g n cap : Nat} {ok : Nat → Prop} {xs : List S99} {x : S99} {i : Nat} (h : Kd.R k99 99 W base ok (.slice (some ⟨g, 0, none⟩) n cap) xs) (hi : xs[i]? = some x) :
 W.cell? ⟨g, i * 2, none⟩ = some (.int .u64 x.f0) ∧ W.cell? ⟨g, i * 2 + 1, none⟩ = some (.int .u64 x.f1) ∧ W.frozen? ⟨g, i * 2, none⟩ = false ∧ W.frozen? ⟨g, i * 2 + 1, none⟩ = false := by
 have hl := (List.getElem?_eq_some_iff.1 hi).1
 have hn := (Kd.R_reads' h).1
 obtain ⟨c, hcl, hM, hcc, hfr⟩ := Kd.R_elem h x (i : Int) (by omega) (by omega)
 rw [Int.toNat_natCast] at hM hcc hfr
 have e : xs.getD i x = x := by rw [List.getD_eq_getElem?_getD, hi]; rfl
 rw [e] at hM
 obtain rfl := k99_openM hM
 exact ⟨hcc 0 _ rfl, hcc 1 _ rfl, hfr 0, hfr 1⟩
theorem k99_put {W : World} {base g n cap : Nat} {ok : Nat → Prop} {xs : List S99} {i : Nat} (h : Kd.R k99 99 W base ok (.slice (some ⟨g, 0, none⟩) n cap) xs) (hi : i < n) (y : S99) :
 Kd.R k99 99 ((W.setCell ⟨g, i * 2, none⟩ (.int .u64 y.f0)).setCell ⟨g, i * 2 + 1, none⟩ (.int .u64 y.f1)) base ok (.slice (some ⟨g, 0, none⟩) n cap) (xs.set i y) := by
 obtain ⟨c, hcl, hM, hcc, hfr⟩ := Kd.R_elem h y (i : Int) (by omega) (by omega)
 have S := Kd.R_seg h (i : Int) (by omega) (by omega) (seg := [.int .u64 y.f0, .int .u64 y.f1]) (j := 0) (okp := fun _ => False) hcl hcc (Nat.le_refl 2) (x' := y) (by
  have : c.length = 2 := hcl
  rw [List.take_zero, List.nil_append, List.drop_of_length_le (by simp; omega), List.append_nil]
  exact k99_mkM _ _ _ y) (fun _ h => h.elim)
 rw [Int.toNat_natCast] at S
 exact S.1
theorem grown_set {W : World} {g o : Nat} {v : Value} : W.grownBy (W.setCell ⟨g, o, none⟩ v) (some g) :=
 ⟨rfl, rfl, rfl, by rw [World.size_setCell]; exact Nat.le_refl _, fun k _ hk => Below.heap_setCell W ⟨g, o, none⟩ v k (fun e => hk (by rw [e]))⟩
theorem grown_trans {a b c : World} {row : Option Nat} (h : a.grownBy b row) (k : b.grownBy c row) : a.grownBy c row :=
 ⟨k.os.trans h.os, k.tape.trans h.tape, k.output.trans h.output, Nat.le_trans h.size k.size, fun i hi hne => (k.block i (Nat.lt_of_lt_of_le hi h.size) hne).trans (h.block i hi hne)⟩
theorem grown_refl (w : World) (row : Option Nat) : w.grownBy w row := ⟨rfl, rfl, rfl, Nat.le_refl _, fun _ _ _ => rfl⟩
theorem grown_drew {a b : World} {row : Option Nat} (h : a.grownBy b row) : a.grownBy b.drew row := ⟨h.os, h.tape, h.output, h.size, h.block⟩
def Rev (xs cur : List S99) (m N t : Nat) : Prop := cur.length = xs.length ∧ (∀ p, p < m → cur[p]? = xs[p]?) ∧ ∀ p, p < N → cur[m + p]? = if p < t ∨ N - t ≤ p then xs[m + (N - 1 - p)]? else xs[m + p]?
theorem Rev.zero (xs : List S99) (m N : Nat) : Rev xs xs m N 0 := ⟨rfl, fun _ _ => rfl, fun p hp => by rw [if_neg (by omega)]⟩
theorem Rev.done {xs cur : List S99} {m N t : Nat} (h : Rev xs cur m N t) (hl : xs.length = m + N) (ht : N ≤ 2 * t + 1) : cur = xs.take m ++ (xs.drop m).reverse := by
 obtain ⟨h1, h2, h3⟩ := h
 apply List.ext_getElem?
 intro p
 by_cases hp : p < m
 ·rw [List.getElem?_append_left (by rw [List.length_take]; omega), List.getElem?_take_of_lt hp]
  exact h2 p hp
 ·rw [List.getElem?_append_right (by rw [List.length_take]; omega), List.length_take, Nat.min_eq_left (by omega)]
  by_cases hq : p < m + N
  ·obtain ⟨q, rfl⟩ : ∃ q, p = m + q := ⟨p - m, by omega⟩
   rw [h3 q (by omega), Nat.add_sub_cancel_left, List.getElem?_reverse (by rw [List.length_drop]; omega), List.getElem?_drop, List.length_drop]
   split
   ·congr 1; omega
   ·congr 1; omega
  ·rw [List.getElem?_eq_none (by omega), List.getElem?_eq_none (by rw [List.length_reverse, List.length_drop]; omega)]
theorem Rev.next {xs cur : List S99} {m N t : Nat} {a b : S99} (h : Rev xs cur m N t) (hl : xs.length = m + N) (ht : 2 * t + 1 < N) (ha : cur[m + t]? = some a) (hb : cur[m + (N - 1 - t)]? = some b) : Rev xs ((cur.set (m + t) b).set (m + (N - 1 - t)) a) m N (t + 1) := by
 obtain ⟨h1, h2, h3⟩ := h
 refine ⟨by rw [List.length_set, List.length_set]; exact h1, fun p hp => by rw [List.getElem?_set_ne (by omega), List.getElem?_set_ne (by omega)]; exact h2 p hp, fun p hp => ?_⟩
 have ea := h3 t (by omega)
 rw [if_neg (by omega), ha] at ea
 have eb := h3 (N - 1 - t) (by omega)
 rw [if_neg (by omega), hb] at eb
 by_cases e1 : p = N - 1 - t
 ·subst e1
  rw [List.getElem?_set_self (by rw [List.length_set]; omega), if_pos (by omega), ea]
  congr 1; omega
 ·rw [List.getElem?_set_ne (by omega)]
  by_cases e2 : p = t
  ·subst e2
   rw [List.getElem?_set_self (by omega), if_pos (by omega), eb]
  ·rw [List.getElem?_set_ne (by omega), h3 p hp]
   by_cases c : p < t ∨ N - t ≤ p
   ·rw [if_pos c, if_pos (by omega)]
   ·rw [if_neg c, if_neg (by omega)]
theorem reverse.calls (g n cap m N c : Nat) (xs : List S99) (W : World) (base : Nat) (ok : Nat → Prop) (hR : Kd.R k99 99 W base ok (.slice (some ⟨g, 0, none⟩) n cap) xs) (hn : n = m + N) (hN : 0 < N) (hl : N ≤ 100000) :
 Calls Tryd.prog 115 #[.slice (some ⟨g, m * 2, none⟩) N c] W fun e w' => e = .returned (.tuple #[]) ∧ Kd.R k99 99 w' base ok (.slice (some ⟨g, 0, none⟩) n cap) (xs.take m ++ (xs.drop m).reverse) ∧ W.grownBy w' (some g) := by
 have hxl : xs.length = m + N := by rw [← hn]; exact (Kd.R_reads' hR).1.symm
 have HR := Aside0.mk hR
 have HN := Aside0.mk hn
 have HXL := Aside0.mk hxl
 have HPOS := Aside0.mk hN
 have hl1 : (N : Int) ≤ 100000 := by omega
 have hl0 : 0 ≤ (N : Int) := by omega
 clear hR hn hxl hN hl
 go_enter Tryd.func115, Tryd.ntmps115
 go_wp2
 try simp only [Act.put, List.setIfInBounds_toArray, List.set_cons_zero, List.set_cons_succ]
 go_loopg [2, 3] (N / 2) (fun kq v2 v3 w' => ∃ (t : Nat) (cur : List S99), v2 = .int .i64 (t : Int) ∧ v3 = .int .i64 ((N : Int) - 1 - (t : Int)) ∧ Aside0 (t + kq = N / 2) ∧ Aside0 (Rev xs cur m N t) ∧ Aside0 (Kd.R k99 99 w' base ok (.slice (some ⟨g, 0, none⟩) n cap) cur) ∧ Aside0 (W.grownBy w' (some g)))
 case atStart => exact ⟨0, xs, rfl, by congr 1; omega, ⟨by omega⟩, ⟨Rev.zero _ _ _⟩, HR, ⟨grown_refl _ _⟩⟩
 case round =>
  clear HR
  obtain ⟨t, cur, rfl, rfl, HT, HC, HR, HG⟩ := hrel
  cases gk with
  | zero =>
   have b0 : decide ((t : Int) < (N : Int) - 1 - (t : Int)) = false := decide_eq_false (by have := HT.out; omega)
   have ecur := HC.out.done HXL.out (by have := HT.out; omega)
   subst ecur
   go_wp2
   go_end0
   exact ⟨rfl, HR.out, HG.out⟩
  | succ k1 =>
   have ht : 2 * t + 1 < N := by have := HT.out; omega
   obtain ⟨j, hj⟩ : ∃ j, j = N - 1 - t := ⟨_, rfl⟩
   rw [show (N : Int) - 1 - (t : Int) = (j : Int) by omega]
   have hcl : cur.length = m + N := by rw [HC.out.1]; exact HXL.out
   obtain ⟨a, ha⟩ : ∃ a, cur[m + t]? = some a := ⟨_, List.getElem?_eq_getElem (by omega)⟩
   obtain ⟨b, hb⟩ : ∃ b, cur[m + j]? = some b := ⟨_, List.getElem?_eq_getElem (by omega)⟩
   obtain ⟨x1, x2, f1, f2⟩ := k99_cell HR.out ha
   obtain ⟨y1, y2, g1, g2⟩ := k99_cell HR.out hb
   rw [Nat.add_mul] at x1 x2 f1 f2 y1 y2 g1 g2
   have b0 : decide ((t : Int) < (j : Int)) = true := decide_eq_true (by omega)
   have b1 : decide (t < j) = true := decide_eq_true (by omega)
   have d0 : 0 ≤ (t : Int) := by omega
   have d1 : (t : Int) < (N : Int) := by omega
   have d2 : decide ((t : Int) < (N : Int)) = true := decide_eq_true d1
   have d3 : decide (t < N) = true := decide_eq_true (by omega)
   have e0 : 0 ≤ (j : Int) := by omega
   have e1 : (j : Int) < (N : Int) := by omega
   have e2 : decide ((j : Int) < (N : Int)) = true := decide_eq_true e1
   have e3 : decide (j < N) = true := decide_eq_true (by omega)
   have hR1 := k99_put HR.out (i := m + t) (by have := HN.out; omega) b
   obtain ⟨z1, z2, w1, w2⟩ := k99_cell hR1 (i := m + j) (x := b) (by rw [List.getElem?_set_ne (by omega)]; exact hb)
   have hR2 := k99_put hR1 (i := m + j) (by have := HN.out; omega) a
   rw [Nat.add_mul, Nat.add_mul] at z1 z2 w1 w2
   have z3 := (World.cell?_setCell_other _ ⟨g, m * 2 + j * 2, none⟩ ⟨g, m * 2 + j * 2 + 1, none⟩ (.int .u64 a.f0) (by simp)).trans z2
   have w3 : World.frozen? (World.setCell _ ⟨g, m * 2 + j * 2, none⟩ (.int .u64 a.f0)) ⟨g, m * 2 + j * 2 + 1, none⟩ = false := (World.frozen?_setCell _ _ _ _).trans w2
   have HR2 := Aside0.mk hR2
   clear hR1 hR2
   have HJ := Aside0.mk hj
   have HTT := Aside0.mk ht
   have HA := Aside0.mk ha
   have HBB := Aside0.mk hb
   clear hj ht hcl ha hb
   go_wp2
   go_region
   all_goals go_wp2
   go_roundg k1
   case measure => omega
   case rel =>
    refine ⟨t + 1, (cur.set (m + t) b).set (m + j) a, rfl, by have := HJ.out; congr 1; omega, ⟨by have := HT.out; omega⟩, ⟨?_⟩, ⟨?_⟩, ⟨?_⟩⟩
    ·have e := HJ.out
     subst e
     exact Rev.next HC.out HXL.out HTT.out HA.out HBB.out
    ·have h := Kd.R_drew HR2.out
     rw [Nat.add_mul, Nat.add_mul] at h
     exact h
    ·exact grown_drew (grown_trans HG.out (grown_trans grown_set (grown_trans grown_set (grown_trans grown_set grown_set))))
end Go.Proofs.YtielnphmcaecdaaDoor.PAll
namespace Go.Proofs.YtielnphmcaecdaaDoorW.PrintWords
open Go.RowKit
section
variable {P : Program} {ops : Array Oper} {rest : List Oper} {o : Oper} {a : Act} {Q : Exit → Act → World → Prop} {Kc : Act → World → Prop}
namespace Kd
variable {α : Type}
theorem cap_row (d : Kd α) {W : World} (base e : Nat) {n : Int} {z : Value} {bytes : Nat} (hb0 : 0 < bytes) (hl : n.toNat * bytes ≤ 281474976710656) (hbase : base ≤ W.heap.size) {ok : Nat → Prop} (hfresh : ok W.heap.size) :
 d.R e (W.alloc (.cells (madeCells z.cells (n.toNat * d.sz)) e)) base ok (.slice (some ⟨W.heap.size, 0, none⟩) 0 n.toNat) ([] : List α) := by
 have hm : n.toNat ≤ 281474976710656 := Nat.le_trans (Nat.le_mul_of_pos_right _ hb0) hl
 refine ⟨fun k hk => ?_, [], ⟨by simp, .inr ⟨W.heap.size, n.toNat, madeCells z.cells (n.toNat * d.sz), rfl, hbase, blk_new W _, Nat.zero_le _, by unfold maxLen; omega, by rw [size_madeCells], by simp⟩⟩, ⟨by simp, fun j p hj => by simp at hj⟩⟩
 have : W.heap.size = k := by simpa [Value.ownBlock] using hk
 subst this
 exact hfresh
end Kd
end
end Go.Proofs.YtielnphmcaecdaaDoorW.PrintWords
