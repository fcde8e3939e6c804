-- Written by a program of this session (wip/tools)
import Derived.Test.YtielnphmcaecdaaDoorQRLExtRangeA2
import Derived.Test.YtielnphmcaecdaaDoorQRLPAllx2
import Derived.Test.YtielnphmcaecdaaDoorQRLPAllx6
import Derived.Test.YtielnphmcaecdaaDoorQRLExtTreeA
import Derived.Test.YtielnphmcaecdaaDoorQRLPAllx5
namespace Go.Proofs.YtielnphmcaecdaaDoor.PAll
open Go.IntWalk Go.RowKit Go.Proofs.YtielnphmcaecdaaDoorW.PrintWords Go.Proofs.YtielnphmcaecdaaDoorW.PrintLast Go.Proofs.YtielnphmcaecdaaDoorW.PrintMore
set_option linter.unusedVariables false
set_option linter.unusedSimpArgs false
theorem wprev {j : Nat} (h : j < 1099511627776) : wrap64 ((j : Int) - 1) = (j : Int) - 1 := by unfold wrap64; omega
def visR (lv : Nat → Nat) (ix : Nat → Int) (s : Nat → List Int) (m : Nat) : List S51 := (List.range m).map fun i => ⟨⟨((lv i + 1 : Nat) : Int), ix i⟩, s (i + 1)⟩
theorem visR_succ (lv : Nat → Nat) (ix : Nat → Int) (s : Nat → List Int) (m : Nat) : visR lv ix s (m + 1) = visR lv ix s m ++ [⟨⟨((lv m + 1 : Nat) : Int), ix m⟩, s (m + 1)⟩] := by
  unfold visR
  rw [List.range_succ, List.map_append]; rfl
set_option maxHeartbeats 8000000 in
set_option maxRecDepth 100000 in
theorem getRoot.calls (k : Nat) (a0 a1 a2 a3 a4 a5 : Int) (tb p fq q : Nat) (e : Int) (M : Nat) (A : Option Addr) (c : Nat) (ss : List SH) (xs : List (List Int)) (SV : Value) (vs : List S51) (z : Nat → Int) (lv : Nat → Nat) (s : Nat → List Int) (w : World)
    (h1 : 1 ≤ tb) (h1q : 1 ≤ q) (hG : Glob w) (htb : tb ≤ w.heap.size) (R : RgAt w tb p fq a0 a1 a2 a3 a4 a5 0 e A c ss xs) (hq : w.heap[q]? = some (.cells #[SV] 36 (0, 0))) (hS : Kd.S k51 51 w tb (fun _ => True) SV vs)
    (hM : xs.length = M + 1) (hn : M < 1099511627776) (hvs : vs.length + M < 1099511627776)
    (hz0 : z 0 = e) (hz : ∀ i, i < M → z (i + 1) = Go.bits .and .u64 (z i) (IntKind.u64.wrap (z i - 1))) (hlv : ∀ i, i < M → bits_TrailingZeros64.f (z (i + 1)) = some (lv i : Int)) (hl64 : ∀ i, i < M → lv i ≤ 64)
    (hs0 : xs.getD M [] = s 0) (hs : ∀ i, i < M → impl_toy_HashChildren.f k a0 a1 a2 a3 a4 a5 (xs.getD (M - 1 - i) []) (s i) = some (s (i + 1))) (hsl : ∀ i, i ≤ M → (s i).length ≤ 140737488355328) :
    Calls Tryd.prog 61 #[.pointer (some ⟨p, 0, none⟩), .func (.func 62) #[] #[.pointer (some ⟨q, 0, none⟩)]] w fun ex w' => ∃ A' c' SV', ex = .returned (.tuple #[.slice A' (s M).length c', .nilIface]) ∧ Txt tb w' (A', (s M).length, c') (s M) ∧ w'.heap[q]? = some (.cells #[SV'] 36 (0, 0)) ∧ Kd.S k51 51 w' tb (fun _ => True) SV' (vs ++ visR lv (fun i => z (i + 1) / 2 ^ min (lv i + 1) 64) s M) ∧ Vs q w w' ∧ (∀ B, B ≤ tb → B ≤ q → Below B w w') := by
  have hln := R.len
  have H1 := Aside0.mk h1
  have H1Q := Aside0.mk h1q
  have HG := Aside0.mk hG
  have HTB := Aside0.mk htb
  have HR := Aside0.mk R
  have HQ := Aside0.mk hq
  have HV := Aside0.mk hS
  have HM := Aside0.mk hM
  have HN := Aside0.mk hn
  have HVS := Aside0.mk hvs
  have HZ0 := Aside0.mk hz0
  have HZ := Aside0.mk hz
  have HLV := Aside0.mk hlv
  have HL64 := Aside0.mk hl64
  have HS := Aside0.mk hs
  have HSL := Aside0.mk hsl
  obtain ⟨g0, cc, e0, hg0⟩ := kSH_form (s := (A, ss.length, c)) R.row (by omega)
  simp only [Prod.mk.injEq] at e0
  obtain ⟨rfl, -, rfl⟩ := e0
  obtain ⟨⟨A0, n0, c0⟩, hs1⟩ : ∃ s, ss[M]? = some s := ⟨_, List.getElem?_eq_getElem (by omega)⟩
  have hx1 : xs[M]? = some (s 0) := by rw [← hs0, List.getD_eq_getElem?_getD, List.getElem?_eq_getElem (by omega)]; rfl
  have HT0 := Aside0.mk (R.txt M _ _ hs1 hx1)
  have x1 : w.cell? ⟨g0, M, none⟩ = some (.slice A0 n0 c0) := (kSH_cell R.row hs1).1
  obtain ⟨L, hL⟩ : ∃ L, ss.length = L := ⟨_, rfl⟩
  have hLM : (L : Int) = (M : Int) + 1 := by omega
  have hLM2 : L = M + 1 := by omega
  have y1 : w.cell? ⟨p, 1, none⟩ = some (.int .u64 0) := blk_cell R.cell 1
  have y2 : w.cell? ⟨p, 2, none⟩ = some (.int .u64 e) := blk_cell R.cell 2
  have y3 : w.cell? ⟨p, 3, none⟩ = some (.slice (some ⟨g0, 0, none⟩) L c) := by rw [← hL]; exact blk_cell R.cell 3
  have d0 : ((L : Int) == 0) = false := beq_eq_false_iff_ne.mpr (by omega)
  have d1 : wrap64 ((L : Int) - 1) = (M : Int) := by have := hn; unfold wrap64; omega
  have d2 : 0 ≤ (M : Int) := by omega
  have d3 : (M : Int) < (L : Int) := by omega
  have d4 : decide ((M : Int) < (L : Int)) = true := decide_eq_true d3
  have d5 : decide (M < L) = true := decide_eq_true (by omega)
  have d6 : wrap64 ((L : Int) - 2) = (M : Int) - 1 := by have := hn; unfold wrap64; omega
  have HL := Aside0.mk hL
  have HLM := Aside0.mk hLM2
  clear h1 h1q hG htb R hq hS hM hn hvs hz0 hz hlv hl64 hs hsl hs0 hg0 hs1 hx1 hL hLM hLM2 hln
  go_enter Tryd.func61, Tryd.ntmps61
  go_wp2_with (fail)
  go_region_held_law (fun w' => w'.cell? ⟨p, 2, none⟩ = some (.int .u64 e)) (first | exact y2 | go_keep) (fail)
  go_wp2_with (fail)
  try simp only [Act.put, List.setIfInBounds_toArray, List.set_cons_zero, List.set_cons_succ]
  have hbd : Below w.heap.size w w.drew := below_drew (Below.refl _ _)
  have HR1 := Aside0.mk (HR.out.below hbd)
  have HS1 := Aside0.mk (HT0.out.pres (Pres5.below hbd))
  have HQ1 := Aside0.mk (blk_below HQ.out hbd)
  have HV1 := Aside0.mk (Kd.S_below HV.out hbd)
  have HVs := Aside0.mk (Vs.of (q := q) hbd)
  have HBB := Aside0.mk (show ∀ B, B ≤ tb → B ≤ q → Below B w w.drew from fun B h _ => hbd.mono (Nat.le_trans h HTB.out))
  generalize w.drew = W at hbd HR1 HS1 HQ1 HV1 HVs HBB ⊢
  clear y1 y2 y3 x1 d0 d1 d2 d3 d4 d5 hbd HT0
  rw [← HZ0.out]
  go_loopg [7, 8, 9] M (fun kq v7 v8 v9 w' => ∃ (i : Nat) (sh : SH) (SV' : Value), v7 = .slice sh.1 sh.2.1 sh.2.2 ∧ v8 = .int .i64 ((kq : Int) - 1) ∧ v9 = .int .u64 (z i) ∧ Aside0 (i + kq = M) ∧ Aside0 (Txt tb w' sh (s i)) ∧ Aside0 (w'.heap[q]? = some (.cells #[SV'] 36 (0, 0))) ∧ Aside0 (Kd.S k51 51 w' tb (fun _ => True) SV' (vs ++ visR lv (fun i => z (i + 1) / 2 ^ min (lv i + 1) 64) s i)) ∧ Aside0 (RgAt w' tb p fq a0 a1 a2 a3 a4 a5 0 e (some ⟨g0, 0, none⟩) c ss xs) ∧ Aside0 (Vs q w w') ∧ Aside0 (∀ B, B ≤ tb → B ≤ q → Below B w w'))
  case atStart => exact ⟨0, (A0, n0, c0), SV, rfl, by first | rw [d6] | rw [i64_w, d6], rfl, ⟨by omega⟩, HS1, HQ1, ⟨by rw [show visR lv (fun i => z (i + 1) / 2 ^ min (lv i + 1) 64) s 0 = [] from rfl, List.append_nil]; exact HV1.out⟩, HR1, HVs, HBB⟩
  case round =>
    clear HR1 HS1 HQ1 HV1 HVs HBB d6
    obtain ⟨i, ⟨A1, n1, c1⟩, SV1, rfl, rfl, rfl, HI, HS1, HQ1, HV1, HR1, HVs, HBB⟩ := hrel
    cases gk with
    | zero =>
      have ei : i = M := by have := HI.out; omega
      subst ei
      obtain ⟨rfl, ht2, ht3⟩ := HS1.out.read
      clear ht2 ht3
      go_wp2
      go_ret2
      exact ⟨A1, c1, SV1, rfl, HS1.out, HQ1.out, HV1.out, HVs.out, HBB.out⟩
    | succ j =>
      have hi : i < M := by have := HI.out; omega
      have hji : j = M - 1 - i := by have := HI.out; omega
      have hL := HL.out
      have hLM := HLM.out
      have hln : ss.length = xs.length := HR1.out.len
      obtain ⟨⟨Am, nm, cm⟩, hsm⟩ : ∃ s, ss[j]? = some s := ⟨_, List.getElem?_eq_getElem (by omega)⟩
      obtain ⟨xm, hxm⟩ : ∃ x, xs[j]? = some x := ⟨_, List.getElem?_eq_getElem (by omega)⟩
      have x1 : wr.cell? ⟨g0, j, none⟩ = some (.slice Am nm cm) := (kSH_cell HR1.out.row hsm).1
      obtain ⟨rfl, hy2, hy3⟩ := (HR1.out.txt j _ _ hsm hxm).read
      obtain ⟨rfl, hx2, hx3⟩ := HS1.out.read
      have hcall := HS.out i hi
      rw [← hji, List.getD_eq_getElem?_getD, hxm, Option.getD_some] at hcall
      have hjL : j < L := by omega
      have d0 : 0 ≤ (j : Int) := by omega
      have d1 : (j : Int) < (L : Int) := by omega
      have d2 : decide ((j : Int) < (L : Int)) = true := decide_eq_true d1
      have d3 : decide (j < L) = true := decide_eq_true hjL
      have d4 : decide ((j : Int) ≥ 0) = true := decide_eq_true d0
      have d5 : decide (0 ≤ (j : Int)) = true := decide_eq_true d0
      have y0 : wr.cell? ⟨p, 0, none⟩ = some (.pointer (some ⟨fq, 0, none⟩)) := blk_cell HR1.out.cell 0
      have y3 : wr.cell? ⟨p, 3, none⟩ = some (.slice (some ⟨g0, 0, none⟩) L c) := by rw [← hL]; exact blk_cell HR1.out.cell 3
      have y4 : wr.cell? ⟨fq, 0, none⟩ = some (.func (.func 50) #[toyV a0 a1 a2 a3 a4 a5] #[]) := blk_cell HR1.out.fac 0
      have HY2 := Aside0.mk hy2
      have HY3 := Aside0.mk hy3
      have HX2 := Aside0.mk hx2
      have HX3 := Aside0.mk hx3
      have HCL := Aside0.mk hcall
      have HII := Aside0.mk hi
      have HL0 := Aside0.mk (show p < wr.heap.size from blk_lt HR1.out.cell)
      have HL1 := Aside0.mk (show fq < wr.heap.size from blk_lt HR1.out.fac)
      have HL2 := Aside0.mk (show g0 < wr.heap.size from World.block_lt_of_cell? _ _ x1)
      clear hy2 hy3 hx2 hx3 hcall hi hsm hxm hln hji hL hLM hjL
      rw [show (((j + 1 : Nat) : Int) - 1) = (j : Int) by omega]
      go_wp2_with (fail)
      go_region_held_law (fun w' => w'.cell? ⟨p, 0, none⟩ = some (.pointer (some ⟨fq, 0, none⟩)) ∧ w'.cell? ⟨p, 3, none⟩ = some (.slice (some ⟨g0, 0, none⟩) L c) ∧ w'.cell? ⟨fq, 0, none⟩ = some (.func (.func 50) #[toyV a0 a1 a2 a3 a4 a5] #[]) ∧ w'.cell? ⟨g0, j, none⟩ = some (.slice Am xm.length cm)) (first | exact ⟨u0, u3, u4, u5⟩ | exact ⟨y0, y3, y4, x1⟩ | go_keep) (first
        | (go_simp; go_at_call 50
           refine (impl_toy_HashChildren.calls k a0 a1 a2 a3 a4 a5 Am cm xm A1 c1 (s i) (s (i + 1)) _ ?s1 HY2.out ?s3 HX2.out HCL.out).mono ?_
           (case s1 => repeat (first | exact HY3.out | (refine Kd.C_drewN ?_ _) | (refine Kd.C_drew ?_)))
           (case s3 => repeat (first | exact HX3.out | (refine Kd.C_drewN ?_ _) | (refine Kd.C_drew ?_)))
           rintro ex w4 ⟨v4, rfl, hR4, hb4⟩
           have HB4 := Aside0.mk (show Below wr.heap.size wr w4 from below_step (by repeat (first | exact Below.refl _ _ | apply Below.drew | apply pw_below_drewN | apply below_drew)) hb4)
           have HR4 := Aside0.mk hR4
           have u0 := (HB4.out.cell (p := ⟨p, 0, none⟩) HL0.out).trans y0
           have u3 := (HB4.out.cell (p := ⟨p, 3, none⟩) HL0.out).trans y3
           have u4 := (HB4.out.cell (p := ⟨fq, 0, none⟩) HL1.out).trans y4
           have u5 := (HB4.out.cell (p := ⟨g0, j, none⟩) HL2.out).trans x1
           clear hR4 hb4)
        | fail)
      replace HR1 := Aside0.mk (HR1.out.below HB4.out)
      replace HQ1 := Aside0.mk (blk_below HQ1.out HB4.out)
      replace HV1 := Aside0.mk (Kd.S_below HV1.out HB4.out)
      have hsz : tb ≤ wr.heap.size := Nat.le_trans HTB.out HVs.out.size
      replace HBB := Aside0.mk (show ∀ B, B ≤ tb → B ≤ q → Below B w w4 from fun B h1 h2 => (HBB.out B h1 h2).trans (HB4.out.mono (Nat.le_trans h1 hsz)))
      replace HVs := Aside0.mk (HVs.out.trans (Vs.of HB4.out))
      obtain ⟨⟨A4, n4, c4⟩, e4⟩ := kSH_val' HR4.out
      subst e4
      have HT4 := Aside0.mk (Txt.of_R HR4.out hsz)
      obtain ⟨rfl, ht2, ht3⟩ := HT4.out.read
      have HT2 := Aside0.mk ht2
      have HT3 := Aside0.mk ht3
      clear ht2 ht3 y0 y3 y4 x1 u0 u3 u4 u5 HR4 HB4 HS1 HL0 HL1 HL2 HY2 HY3 HX2 HX3 HCL d0 d1 d2 d3 d4 d5 hsz
      have hnq := fun W => neq_nil 62 q W
      dsimp only [shE]
      go_step
      try simp [Act.put]
      try go_step
      go_wp2_with (fail)
      have hlv := HL64.out i HII.out
      have hw1 : IntKind.u64.wrap ((lv i : Nat) : Int) = ((lv i : Nat) : Int) := Go.Proofs.YtielnphmcaecdaaDoor.Num.u64in (by omega)
      obtain ⟨lm, hlm⟩ : ∃ lm, lm = lv i + 1 := ⟨_, rfl⟩
      have hw2 : IntKind.u64.wrap (((lv i : Nat) : Int) + 1) = (lm : Int) := (congrArg IntKind.u64.wrap (by omega : ((lv i : Nat) : Int) + 1 = (lm : Int))).trans (Go.Proofs.YtielnphmcaecdaaDoor.Num.u64in (by omega))
      have HLM2 := Aside0.mk hlm
      clear hlv hlm
      rw [← HZ.out i HII.out]
      refine (bits_TrailingZeros64.calls (z (i + 1)) (lv i : Int) w4 (HG.out.far (HBB.out 1 H1.out H1Q.out)) (HLV.out i HII.out)).mono ?_
      rintro ex w' ⟨rfl, hd⟩
      obtain ⟨⟨nd, rfl⟩⟩ := hd
      dsimp only
      go_wp2_with (fail)
      refine (newNode.calls _ _ _).mono ?_
      rintro ex w5 ⟨rfl, hb5'⟩
      have hb5 : Below w4.heap.size w4 w5 := below_step (pw_below_drewN (Below.refl _ _) nd) hb5'
      dsimp only
      replace HR1 := Aside0.mk (HR1.out.below hb5)
      replace HQ1 := Aside0.mk (blk_below HQ1.out hb5)
      replace HV1 := Aside0.mk (Kd.S_below HV1.out hb5)
      replace HT4 := Aside0.mk (HT4.out.pres (Pres5.below hb5))
      replace HT3 := Aside0.mk (Kd.C_below HT3.out hb5)
      have hsz : tb ≤ w4.heap.size := Nat.le_trans HTB.out HVs.out.size
      replace HBB := Aside0.mk (show ∀ B, B ≤ tb → B ≤ q → Below B w w5 from fun B h1 h2 => (HBB.out B h1 h2).trans (hb5.mono (Nat.le_trans h1 hsz)))
      replace HVs := Aside0.mk (HVs.out.trans (Vs.of hb5))
      clear hb5 hb5' hsz
      go_wp2_with (fail)
      have hsz : tb ≤ w5.heap.size := Nat.le_trans HTB.out HVs.out.size
      refine (seen62.calls _ _ A4 c4 (s (i + 1)) tb q SV1 _ _ hsz HQ1.out HV1.out HT3.out HT2.out (by have := HVS.out; have := HII.out; rw [List.length_append]; unfold visR; rw [List.length_map, List.length_range]; omega) (HSL.out _ HII.out)).mono ?_
      rintro ex w6 ⟨rfl, SV6, hq6, hS6, hbb6, hvs6⟩
      have HQ6 := Aside0.mk hq6
      have HS6 := Aside0.mk hS6
      have HR6 := Aside0.mk (HR1.out.vs hvs6 HQ1.out)
      have HT6 := Aside0.mk (HT4.out.pres (hvs6.pres HQ1.out))
      have HVs6 := Aside0.mk (HVs.out.trans hvs6)
      have HBB6 := Aside0.mk (show ∀ B, B ≤ tb → B ≤ q → Below B w w6 from fun B h1 h2 => (HBB.out B h1 h2).trans (hbb6 B h1 h2))
      clear hq6 hS6 hbb6 hvs6 hsz HR1 HT4 HVs HBB HQ1 HV1
      dsimp only
      go_wp2
      go_roundg j
      case measure => omega
      case rel =>
        refine ⟨i + 1, (A4, (s (i + 1)).length, c4), SV6, rfl, ?_, rfl, ⟨by have := HI.out; omega⟩, HT6, HQ6, ⟨?_⟩, HR6, HVs6, HBB6⟩
        · rw [wprev (by have := HI.out; have := HN.out; omega)]
        · rw [visR_succ, ← List.append_assoc]
          have h := HS6.out
          rw [HLM2.out] at h
          exact h
end Go.Proofs.YtielnphmcaecdaaDoor.PAll
namespace Go.Proofs.YtielnphmcaecdaaDoor.Hsh
open Go.RowKit Go.Proofs.YtielnphmcaecdaaDoor.Num Go.Proofs.YtielnphmcaecdaaDoor.PAll Go.Proofs.YtielnphmcaecdaaDoorW.PrintWords Go.Proofs.YtielnphmcaecdaaDoorW.PrintLast
set_option linter.unusedVariables false
theorem lift {α : Type} {F : Nat → Option α} (hm : ∀ k, LeO (F k) (F (k + 1))) {k : Nat} {r : α} (h : F k = some r) : ∀ {K : Nat}, k ≤ K → F K = some r := by
  intro K hK
  obtain ⟨d, rfl⟩ := Nat.exists_eq_add_of_le hK
  clear hK
  induction d with
  | zero => exact h
  | succ d ih => exact hm _ _ ih
theorem next64 {i : Nat} (h : i < 9223372036854775807) : wrap64 ((i : Int) + 1) = ((i + 1 : Nat) : Int) := by unfold wrap64; omega
theorem drop_rd1 {l : List Int} {i : Nat} (h : i < l.length) : l.drop i = rd l (i : Int) :: l.drop (i + 1) := by
  rw [List.drop_eq_getElem_cons h]
  congr 1
  show _ = l.getD i 0
  rw [List.getD_eq_getElem?_getD, List.getElem?_eq_getElem h]; rfl
def step (x b : Int) : Int := IntKind.u64.wrap ((Go.bits .xor .u64 x (IntKind.u64.wrap b)) * 1099511628211)
def mix (x : Int) (l : List Int) : Int := l.foldl step x
theorem impl_mixed_loop (l : List Int) (hl : l.length < 9223372036854775807) (d : Nat) : ∀ i x, i + d = l.length →
    impl_mixed.l0 (d + 1) x l (l.length : Int) (i : Int) = some (mix x (l.drop i)) := by
  induction d with
  | zero => intro i x hi; rw [impl_mixed.l0, if_neg (by omega), List.drop_of_length_le (by omega)]; rfl
  | succ d ih =>
    intro i x hi
    rw [impl_mixed.l0, if_pos (by omega), if_pos (by omega), if_pos (by omega), next64 (by omega), ih (i + 1) _ (by omega), drop_rd1 (show i < l.length by omega)]
    rfl
theorem impl_mixed_eq (l : List Int) (x : Int) (hl : l.length < 9223372036854775807) {k : Nat} (hk : l.length < k) : impl_mixed.f k x l = some (mix x l) :=
  lift (fun k => impl_mixed.mono x l k) (impl_mixed_loop l hl l.length 0 x (by omega)) hk
def byt (w : Int) (i : Nat) : Int := shr .u64 w ((8 * i : Nat) : Int) % 256
def wrd (w : Int) : Nat → List Int
  | 0 => []
  | n + 1 => byt w n :: wrd w n
theorem wrd_length (w : Int) : ∀ n, (wrd w n).length = n
  | 0 => rfl
  | n + 1 => by rw [wrd, List.length_cons, wrd_length w n]
theorem eight {i : Nat} (h : i ≤ 8) : wrap64 (8 * (i : Int)) = ((8 * i : Nat) : Int) := by unfold wrap64; omega
theorem set_at (d : Nat) (b : Int) (l : List Int) : (List.replicate (d + 1) 0 ++ l).set d b = List.replicate d 0 ++ (b :: l) := by
  induction d with
  | zero => rfl
  | succ d ih => rw [List.replicate_succ, List.cons_append, List.set_cons_succ, ih, List.replicate_succ, List.cons_append]
theorem impl_word_loop (w : Int) (n : Nat) (hn : n ≤ 8) (d : Nat) : ∀ i, i + d = n →
    impl_word.l0 (d + 1) w (n : Int) (List.replicate d 0 ++ wrd w i) (n : Int) (i : Int) = some (wrd w n) := by
  induction d with
  | zero =>
    intro i hi
    have e : i = n := by omega
    rw [impl_word.l0, if_neg (by omega), e]; rfl
  | succ d ih =>
    intro i hi
    have e1 : wrap64 (wrap64 ((n : Int) - 1) - (i : Int)) = (d : Int) := by unfold wrap64; omega
    rw [impl_word.l0, if_pos (by omega), eight (by omega), if_pos (by omega), e1, if_pos (by omega), if_pos (by rw [List.length_append, List.length_replicate]; omega), next64 (by omega), Int.toNat_natCast, set_at]
    exact ih (i + 1) (by omega)
def nb (a : Int) : Nat := if a < 1 ∨ a > 8 then 8 else a.toNat
theorem nb_le (a : Int) : nb a ≤ 8 := by unfold nb; split <;> omega
theorem impl_word_j1 (w : Int) (n : Nat) (hn : n ≤ 8) (k : Nat) (hk : 10 ≤ k) : impl_word.j1 k w (n : Int) = some (wrd w n) := by
  obtain ⟨k, rfl⟩ : ∃ k', k = k' + 1 := ⟨k - 1, by omega⟩
  rw [impl_word.j1, if_pos (by omega), if_pos (by rw [Int.toNat_natCast]; omega), Option.bind_some, List.length_replicate, Int.toNat_natCast]
  refine lift (F := fun k => impl_word.l0 k w (n : Int) (List.replicate n 0) (n : Int) 0) (fun k => (impl_word.mono_l k).2.2 _ _ _ _ _) (k := n + 1) ?_ (by omega)
  have := impl_word_loop w n hn n 0 (by omega)
  rw [wrd, List.append_nil] at this
  exact this
theorem impl_word_eq (w a : Int) {k : Nat} (hk : 20 ≤ k) : impl_word.f k w a = some (wrd w (nb a)) := by
  obtain ⟨k, rfl⟩ : ∃ k', k = k' + 1 := ⟨k - 1, by omega⟩
  unfold impl_word.f
  by_cases h : a < 1
  · rw [if_pos h, impl_word.j0, if_pos rfl, show nb a = 8 by unfold nb; rw [if_pos (.inl h)]]
    exact impl_word_j1 w 8 (by omega) k (by omega)
  · rw [if_neg h, impl_word.j0]
    by_cases h2 : a > 8
    · rw [if_pos (decide_eq_true h2), show nb a = 8 by unfold nb; rw [if_pos (.inr h2)]]
      exact impl_word_j1 w 8 (by omega) k (by omega)
    · rw [if_neg (by rw [decide_eq_false h2]; decide)]
      have e : a = ((nb a : Nat) : Int) := by unfold nb; rw [if_neg (by omega)]; omega
      have := impl_word_j1 w (nb a) (nb_le a) k (by omega)
      rw [← e] at this; exact this
theorem spec_word_l1 (x : Int) : ∀ (j : Nat) (acc : List Int), j ≤ 8 → acc.length + j ≤ 100 → spec_word.l1 (j + 1) x acc ((j : Int) - 1) = some (acc ++ wrd x j)
  | 0, acc, _, _ => by rw [spec_word.l1, if_neg (by omega), wrd, List.append_nil]
  | j + 1, acc, hj, ha => by
    have e : ((j + 1 : Nat) : Int) - 1 = (j : Int) := by omega
    have e2 : wrap64 ((j : Int) - 1) = (j : Int) - 1 := by unfold wrap64; omega
    rw [spec_word.l1, e, if_pos (by omega), eight (by omega), if_pos (by omega), if_pos (by omega), e2, spec_word_l1 x j _ (by omega) (by rw [List.length_append]; simp only [List.length_singleton]; omega), wrd, List.append_assoc]
    rfl
theorem spec_word_j2 (x : Int) (n : Nat) (hn : n ≤ 8) (k : Nat) (hk : 10 ≤ k) : spec_word.j2 k x (n : Int) = some (wrd x n) := by
  obtain ⟨k, rfl⟩ : ∃ k', k = k' + 1 := ⟨k - 1, by omega⟩
  have e : wrap64 ((n : Int) - 1) = (n : Int) - 1 := by unfold wrap64; omega
  rw [spec_word.j2, e]
  exact lift (F := fun k => spec_word.l1 k x [] ((n : Int) - 1)) (fun k => (spec_word.mono_l k).2.2.2 _ _ _) (spec_word_l1 x n [] hn (by simp only [List.length_nil]; omega)) (by omega)
theorem spec_word_end (x a : Int) (k : Nat) (hk : 20 ≤ k) : (if a < 1 then (spec_word.j1 k x a true) else (spec_word.j1 k x a (decide (a > 8)))) = some (wrd x (nb a)) := by
  obtain ⟨k, rfl⟩ : ∃ k', k = k' + 1 := ⟨k - 1, by omega⟩
  by_cases h : a < 1
  · rw [if_pos h, spec_word.j1, if_pos rfl, show nb a = 8 by unfold nb; rw [if_pos (.inl h)]]
    exact spec_word_j2 x 8 (by omega) k (by omega)
  · rw [if_neg h, spec_word.j1]
    by_cases h2 : a > 8
    · rw [if_pos (decide_eq_true h2), show nb a = 8 by unfold nb; rw [if_pos (.inr h2)]]
      exact spec_word_j2 x 8 (by omega) k (by omega)
    · rw [if_neg (by rw [decide_eq_false h2]; decide)]
      have e : a = ((nb a : Nat) : Int) := by unfold nb; rw [if_neg (by omega)]; omega
      have := spec_word_j2 x (nb a) (nb_le a) k (by omega)
      rw [← e] at this; exact this
theorem spec_word_loop (l : List Int) (hl : l.length < 9223372036854775807) (a0 a1 a2 a3 a4 a5 : Int) (d : Nat) : ∀ i x, i + d = l.length →
    spec_word.l0 (d + 21) x l (l.length : Int) (i : Int) a0 a1 a2 a3 a4 a5 = some (wrd (mix x (l.drop i)) (nb a2)) := by
  induction d with
  | zero =>
    intro i x hi
    rw [spec_word.l0, if_neg (by omega), List.drop_of_length_le (by omega)]
    exact spec_word_end x a2 20 (by omega)
  | succ d ih =>
    intro i x hi
    rw [show d + 1 + 21 = (d + 21) + 1 by omega, spec_word.l0, if_pos (by omega), if_pos (by omega), if_pos (by omega), next64 (by omega), ih (i + 1) _ (by omega), drop_rd1 (show i < l.length by omega)]
    rfl
theorem spec_word_eq (a0 a1 a2 a3 a4 a5 x : Int) (l : List Int) (hl : l.length < 9223372036854775807) {k : Nat} (hk : l.length + 21 ≤ k) :
    spec_word.f k a0 a1 a2 a3 a4 a5 x l = some (wrd (mix x l) (nb a2)) :=
  lift (fun k => spec_word.mono a0 a1 a2 a3 a4 a5 x l k) (spec_word_loop l hl a0 a1 a2 a3 a4 a5 l.length 0 x (by omega)) hk
def hash (a0 a2 a5 : Int) (l r : List Int) : List Int :=
  if a0 = 1 then wrd (mix (mix (mix a5 l) [255]) r) (nb a2) else [1] ++ wrd (IntKind.u64.wrap (l.length : Int)) 8 ++ l ++ r
theorem hash_le (a0 a2 a5 : Int) (l r : List Int) : (hash a0 a2 a5 l r).length ≤ 9 + l.length + r.length := by
  unfold hash
  have := nb_le a2
  split
  · rw [wrd_length]; omega
  · simp only [List.length_append, wrd_length, List.length_singleton]; omega
theorem impl_hash (a0 a1 a2 a3 a4 a5 : Int) (l r : List Int) (hl : l.length ≤ 1000000000000) (hr : r.length ≤ 1000000000000) {k : Nat} (hk : l.length + r.length + 30 ≤ k) :
    impl_toy_HashChildren.f k a0 a1 a2 a3 a4 a5 l r = some (hash a0 a2 a5 l r) := by
  unfold impl_toy_HashChildren.f hash
  by_cases h : a0 = 1
  · rw [if_pos h, if_pos h, impl_mixed_eq l a5 (by omega) (by omega), Option.bind_some, impl_mixed_eq _ _ (by simp only [List.length_singleton]; omega) (by simp only [List.length_singleton]; omega), Option.bind_some, impl_mixed_eq _ _ (by omega) (by omega), Option.bind_some, impl_word_eq _ _ (by omega), Option.bind_some]
  · rw [if_neg h, if_neg h, Option.bind_some, impl_word_eq _ _ (by omega), Option.bind_some]
    have e : nb 8 = 8 := by decide
    rw [e, if_pos (by simp only [List.length_singleton, wrd_length]; omega), Option.bind_some, if_pos (by simp only [List.length_append, List.length_singleton, wrd_length]; omega), Option.bind_some, if_pos (by simp only [List.length_append, List.length_singleton, wrd_length]; omega)]
theorem spec_hash_loop (l r : List Int) (hl : l.length ≤ 1000000000000) (hr : r.length ≤ 1000000000000) : ∀ (j : Nat) (acc : List Int), j ≤ 8 → acc.length + j ≤ 100 →
    spec_HashChildren.l0 (j + 1) l r acc (8 * (j : Int) - 8) = some (acc ++ wrd (IntKind.u64.wrap (l.length : Int)) j ++ l ++ r)
  | 0, acc, _, ha => by
    rw [spec_HashChildren.l0, if_neg (by omega), if_pos (by omega), Option.bind_some, if_pos (by rw [List.length_append]; omega), wrd, List.append_nil]
  | j + 1, acc, hj, ha => by
    have e : 8 * ((j + 1 : Nat) : Int) - 8 = ((8 * j : Nat) : Int) := by omega
    have e2 : wrap64 (((8 * j : Nat) : Int) - 8) = 8 * (j : Int) - 8 := by unfold wrap64; omega
    rw [spec_HashChildren.l0, e, if_pos (by omega), if_pos (by omega), Option.bind_some, if_pos (by simp only [List.length_singleton]; omega), e2, spec_hash_loop l r hl hr j _ (by omega) (by rw [List.length_append]; simp only [List.length_singleton]; omega), wrd]
    show _ = some (acc ++ ([byt _ j] ++ wrd _ j) ++ l ++ r)
    rw [List.append_assoc acc]
    rfl
theorem spec_hash (a0 a1 a2 a3 a4 a5 : Int) (l r : List Int) (hl : l.length ≤ 1000000000000) (hr : r.length ≤ 1000000000000) {k : Nat} (hk : l.length + r.length + 30 ≤ k) :
    spec_HashChildren.f k a0 a1 a2 a3 a4 a5 l r = some (hash a0 a2 a5 l r) := by
  unfold spec_HashChildren.f spec_Terms.f hash
  rw [Option.bind_some]
  by_cases h : a0 = 1
  · rw [if_neg (by subst h; decide), if_pos h, Option.bind_some, if_pos (by simp only [List.length_nil]; omega), Option.bind_some, Option.bind_some, List.nil_append, if_pos (by simp only [List.length_singleton]; omega), Option.bind_some, if_pos (by simp only [List.length_append, List.length_singleton]; omega), spec_word_eq _ _ _ _ _ _ _ _ (by simp only [List.length_append, List.length_singleton]; omega) (by simp only [List.length_append, List.length_singleton]; omega), Option.bind_some]
    unfold mix
    rw [List.foldl_append, List.foldl_append]
  · rw [if_pos (by exact bne_iff_ne.mpr h), if_neg h]
    exact lift (F := fun k => spec_HashChildren.l0 k l r [1] 56) (fun k => spec_HashChildren.mono_l k _ _ _ _) (spec_hash_loop l r hl hr 8 [1] (by omega) (by simp only [List.length_singleton]; omega)) (by omega)
end Go.Proofs.YtielnphmcaecdaaDoor.Hsh
namespace Go.Proofs.YtielnphmcaecdaaDoor.Hsh
open Go.RowKit Go.Proofs.YtielnphmcaecdaaDoor.Num Go.Proofs.YtielnphmcaecdaaDoor.PAll Go.Proofs.YtielnphmcaecdaaDoorW.PrintWords Go.Proofs.YtielnphmcaecdaaDoorW.PrintLast
set_option linter.unusedVariables false
theorem rdL (l : List (List Int)) (i : Nat) : rd_L1 l (i : Int) = l.getD i [] := rfl
theorem take_at {α : Type} (l : List α) (i : Nat) (d : α) (h : i < l.length) : l.take (i + 1) = l.take i ++ [l.getD i d] := by
  rw [List.getD_eq_getElem?_getD, List.getElem?_eq_getElem h, Option.getD_some, List.take_succ_eq_append_getElem h]
theorem fits_loop (l : List (List Int)) (hl : l.length ≤ 2147483647) (d : Nat) : ∀ i, i + d = l.length → (∀ j, j < i → (l.getD j []).length ≤ 2147483647) →
    ∃ z, laws_zzFits2.l0 (d + 1) l (l.length : Int) (i : Int) = some z ∧ (z = true → ∀ j, j < l.length → (l.getD j []).length ≤ 2147483647) := by
  induction d with
  | zero =>
    intro i hi hj
    exact ⟨true, by rw [laws_zzFits2.l0, if_neg (by omega)], fun _ j h => hj j (by omega)⟩
  | succ d ih =>
    intro i hi hj
    rw [laws_zzFits2.l0, if_pos (by omega), if_pos (by omega), if_pos (by omega), rdL]
    by_cases h : ((l.getD i []).length : Int) > 2147483647
    · rw [if_pos h]; exact ⟨false, rfl, fun h => by cases h⟩
    · rw [if_neg h, next64 (by omega)]
      exact ih (i + 1) (by omega) (fun j h2 => by
        by_cases e : j = i
        · subst e; omega
        · exact hj j (by omega))
theorem fits (l : List (List Int)) : ∃ z k, laws_zzFits2.f k l = some z ∧ (z = true → l.length ≤ 2147483647 ∧ ∀ j, j < l.length → (l.getD j []).length ≤ 2147483647) := by
  by_cases h : (l.length : Int) > 2147483647
  · exact ⟨false, 0, by unfold laws_zzFits2.f; rw [if_pos h], fun h => by cases h⟩
  · obtain ⟨z, hz, hb⟩ := fits_loop l (by omega) l.length 0 (by omega) (fun j h => absurd h (by omega))
    exact ⟨z, l.length + 1, by unfold laws_zzFits2.f; rw [if_neg h]; exact hz, fun e => ⟨by omega, hb e⟩⟩
theorem small_loop (l : List (List Int)) (hl : l.length ≤ 2147483647) (d : Nat) : ∀ i, i + d = l.length → (∀ j, j < i → (l.getD j []).length ≤ 5000) →
    ∃ z, laws_logSmall.l0 (d + 1) l l (l.length : Int) (i : Int) = some z ∧ (z = true → l.length ≤ 300 ∧ ∀ j, j < l.length → (l.getD j []).length ≤ 5000) := by
  induction d with
  | zero =>
    intro i hi hj
    exact ⟨decide ((l.length : Int) ≤ 300), by rw [laws_logSmall.l0, if_neg (by omega)], fun h => ⟨by have := of_decide_eq_true h; omega, fun j h => hj j (by omega)⟩⟩
  | succ d ih =>
    intro i hi hj
    rw [laws_logSmall.l0, if_pos (by omega), if_pos (by omega), if_pos (by omega), rdL]
    by_cases h : ((l.getD i []).length : Int) > 5000
    · rw [if_pos h]; exact ⟨false, rfl, fun h => by cases h⟩
    · rw [if_neg h, next64 (by omega)]
      exact ih (i + 1) (by omega) (fun j h2 => by
        by_cases e : j = i
        · subst e; omega
        · exact hj j (by omega))
theorem small (l : List (List Int)) (hl : l.length ≤ 2147483647) : ∃ z, laws_logSmall.f (l.length + 1) l = some z ∧ (z = true → l.length ≤ 300 ∧ ∀ j, j < l.length → (l.getD j []).length ≤ 5000) :=
  small_loop l hl l.length 0 (by omega) (fun j h => absurd h (by omega))
theorem texts_loop (l : List (List Int)) (hl : l.length ≤ 2147483647) (hb : ∀ j, j < l.length → (l.getD j []).length ≤ 2147483647) (d : Nat) : ∀ i, i + d = l.length →
    impl_texts.l0 (d + 1) (l.take i) l (l.length : Int) (i : Int) = some l := by
  induction d with
  | zero =>
    intro i hi
    rw [impl_texts.l0, if_neg (by omega), List.take_of_length_le (by omega)]
  | succ d ih =>
    intro i hi
    have h1 := hb i (by omega)
    have h2 : (l.take i).length < 5864062014805 := by rw [List.length_take]; omega
    rw [impl_texts.l0, if_pos (by omega), if_pos (by omega), if_pos (by omega), Option.bind_some, if_pos (by rw [rdL]; simp only [List.length_nil]; omega), if_pos h2, next64 (by omega), List.nil_append, rdL, ← take_at l i [] (by omega)]
    exact ih (i + 1) (by omega)
theorem texts_eq (l : List (List Int)) (hl : l.length ≤ 2147483647) (hb : ∀ j, j < l.length → (l.getD j []).length ≤ 2147483647) {k : Nat} (hk : l.length < k) : impl_texts.f k l = some l :=
  lift (fun k => impl_texts.mono l k) (texts_loop l hl hb l.length 0 (by omega)) hk
end Go.Proofs.YtielnphmcaecdaaDoor.Hsh
namespace Go.Proofs.YtielnphmcaecdaaDoor.Mth
def Nds (l b e : Nat) : List (Nat × Nat) :=
  if b < e then (if b % 2 = 1 then [(l, b)] else []) ++ Nds (l + 1) ((b + 1) / 2) (e / 2) ++ (if e % 2 = 1 then [(l, e - 1)] else []) else []
termination_by e
decreasing_by omega
theorem Nds_empty {l b e : Nat} (h : e ≤ b) : Nds l b e = [] := by rw [Nds, if_neg (by omega)]
theorem Nds_some {l b e : Nat} (h : b < e) : Nds l b e = (if b % 2 = 1 then [(l, b)] else []) ++ Nds (l + 1) ((b + 1) / 2) (e / 2) ++ (if e % 2 = 1 then [(l, e - 1)] else []) := by rw [Nds, if_pos h]
def lev (b e : Nat) : Nat := if b % 2 = 0 ∧ b + 2 ≤ e then lev (b / 2) (e / 2) + 1 else 0
termination_by e
decreasing_by omega
theorem lev_up {b e : Nat} (h : b % 2 = 0) (h2 : b + 2 ≤ e) : lev b e = lev (b / 2) (e / 2) + 1 := by rw [lev, if_pos ⟨h, h2⟩]
theorem lev_no {b e : Nat} (h : b % 2 = 1 ∨ e < b + 2) : lev b e = 0 := by rw [lev, if_neg (by omega)]
theorem pow_up (n : Nat) : 2 ^ (n + 1) = 2 * 2 ^ n := by rw [Nat.pow_succ, Nat.mul_comm]
theorem mod_double (b n : Nat) (h : b % 2 = 0) : b % (2 * n) = 2 * (b / 2 % n) := by
  have hb : b = 2 * (b / 2) := by omega
  rw (occs := .pos [1]) [hb]; rw [Nat.mul_mod_mul_left]
theorem lev_spec (b e : Nat) (h : b < e) : b % 2 ^ lev b e = 0 ∧ b + 2 ^ lev b e ≤ e ∧ (b % 2 ^ (lev b e + 1) = 0 → e < b + 2 ^ (lev b e + 1)) := by
  induction e using Nat.strongRecOn generalizing b with
  | _ e ih =>
  by_cases hc : b % 2 = 0 ∧ b + 2 ≤ e
  · obtain ⟨h1, h2, h3⟩ := ih (e / 2) (by omega) (b / 2) (by omega)
    rw [lev_up hc.1 hc.2, pow_up, pow_up (lev (b / 2) (e / 2) + 1), mod_double _ _ hc.1, mod_double _ _ hc.1]
    refine ⟨by omega, by omega, fun h4 => ?_⟩
    have := h3 (by omega); omega
  · rw [lev_no (by omega)]
    refine ⟨by simp [Nat.mod_one], by simp; omega, fun h4 => ?_⟩
    simp at h4 ⊢; omega
theorem Nds_step (l b e : Nat) (h : b < e) : Nds l b e = (l + lev b e, b / 2 ^ lev b e) :: Nds l (b + 2 ^ lev b e) e := by
  induction e using Nat.strongRecOn generalizing l b with
  | _ e ih =>
  by_cases hb : b % 2 = 1
  · rw [Nds_some h, if_pos hb, lev_no (.inl hb)]
    simp only [Nat.add_zero, Nat.pow_zero, Nat.div_one, List.cons_append, List.nil_append]
    congr 1
    by_cases h1 : b + 1 < e
    · rw [Nds_some h1, if_neg (show ¬ (b + 1) % 2 = 1 by omega), show (b + 1 + 1) / 2 = (b + 1) / 2 by omega]; simp
    · rw [Nds_empty (by omega : e ≤ b + 1), Nds_empty (by omega : e / 2 ≤ (b + 1) / 2), if_neg (by omega)]; rfl
  · by_cases h2 : b + 2 ≤ e
    · rw [Nds_some h, if_neg hb, lev_up (by omega) h2]
      have hs := (lev_spec (b / 2) (e / 2) (by omega)).2.1
      rw [show (b + 1) / 2 = b / 2 by omega, ih (e / 2) (by omega) (l + 1) (b / 2) (by omega)]
      simp only [List.nil_append, List.cons_append]
      rw [show l + 1 + lev (b / 2) (e / 2) = l + (lev (b / 2) (e / 2) + 1) by omega, show b / 2 / 2 ^ lev (b / 2) (e / 2) = b / 2 ^ (lev (b / 2) (e / 2) + 1) by rw [pow_up, Nat.div_div_eq_div_mul]]
      rw [pow_up]
      generalize 2 ^ lev (b / 2) (e / 2) = g at *
      congr 1
      by_cases h3 : b + 2 * g < e
      · rw [Nds_some h3, if_neg (show ¬ (b + 2 * g) % 2 = 1 by omega), show (b + 2 * g + 1) / 2 = b / 2 + g by omega]; simp
      · rw [Nds_empty (by omega : e / 2 ≤ b / 2 + g), Nds_empty (by omega : e ≤ b + 2 * g), if_neg (by omega)]; rfl
    · rw [Nds_some h, if_neg hb, Nds_empty (by omega : e / 2 ≤ (b + 1) / 2), if_pos (by omega), lev_no (by omega)]
      simp only [Nat.add_zero, Nat.pow_zero, Nat.div_one, List.nil_append]
      rw [Nds_empty (by omega : e ≤ b + 1), show e - 1 = b by omega]
theorem Nds_len (l b e m : Nat) (h : e < 2 ^ m) : (Nds l b e).length ≤ 2 * m := by
  induction m generalizing l b e with
  | zero => rw [Nds_empty (by simp at h; omega)]; simp
  | succ m ih =>
    by_cases hb : b < e
    · have := ih (l + 1) ((b + 1) / 2) (e / 2) (by rw [Nat.pow_succ] at h; omega)
      rw [Nds_some hb, List.length_append, List.length_append]
      have h1 : (if b % 2 = 1 then [(l, b)] else []).length ≤ 1 := by split <;> simp
      have h2 : (if e % 2 = 1 then [(l, e - 1)] else []).length ≤ 1 := by split <;> simp
      omega
    · rw [Nds_empty (by omega)]; simp
def Lft : Nat → Nat → Nat → List (Nat × Nat)
  | _, 0, _ => []
  | l, n + 1, b => (if b % 2 = 1 then [(l, b)] else []) ++ Lft (l + 1) n ((b + 1) / 2)
def Rgt : Nat → Nat → Nat → List (Nat × Nat)
  | _, 0, _ => []
  | l, n + 1, e => Rgt (l + 1) n (e / 2) ++ (if e % 2 = 1 then [(l, e - 1)] else [])
theorem Nds_parts (n l b e : Nat) (hb : 0 < b) (h : (b - 1) / 2 ^ n + 1 = e / 2 ^ n) : Nds l b e = Lft l n b ++ Rgt l n e := by
  induction n generalizing l b e with
  | zero => simp at h; rw [Nds_empty (by omega)]; rfl
  | succ n ih =>
    have hp := Nat.two_pow_pos n
    rw [Nat.pow_succ, Nat.mul_comm, ← Nat.div_div_eq_div_mul, ← Nat.div_div_eq_div_mul] at h
    have e1 : (b + 1) / 2 - 1 = (b - 1) / 2 := by omega
    have i1 := ih (l + 1) ((b + 1) / 2) (e / 2) (by omega) (by rw [e1]; exact h)
    have hlt : (b - 1) / 2 < e / 2 := by
      rcases Nat.lt_or_ge ((b - 1) / 2) (e / 2) with h1 | h1
      · exact h1
      · have := Nat.div_le_div_right (c := 2 ^ n) h1; omega
    by_cases hbe : b < e
    · rw [Nds_some hbe, i1, Lft, Rgt]; simp [List.append_assoc]
    · have : b = e := by omega
      subst this
      have hev : b % 2 = 0 := by omega
      rw [Nds_empty (Nat.le_refl _), Lft, Rgt, if_neg (by omega), if_neg (by omega), List.nil_append, List.append_nil, ← i1, Nds_empty (by omega)]
theorem Nds_zero (n l e : Nat) (h : e < 2 ^ n) : Nds l 0 e = Rgt l n e := by
  induction n generalizing l e with
  | zero => simp at h; subst h; rw [Nds_empty (Nat.le_refl _)]; rfl
  | succ n ih =>
    have i1 := ih (l + 1) (e / 2) (by rw [Nat.pow_succ] at h; omega)
    by_cases he : 0 < e
    · rw [Nds_some he, Rgt, ← i1]; simp
    · have : e = 0 := by omega
      subst this
      rw [Nds_empty (Nat.le_refl _), Rgt, ← i1, Nds_empty (Nat.le_refl _)]; rfl
def RgtT : Nat → Nat → List (Nat × Nat)
  | 0, _ => []
  | n + 1, e => (if e / 2 ^ n % 2 = 1 then [(n, e / 2 ^ n - 1)] else []) ++ RgtT n e
theorem Rgt_top (l n e : Nat) : Rgt l (n + 1) e = (if e / 2 ^ n % 2 = 1 then [(l + n, e / 2 ^ n - 1)] else []) ++ Rgt l n e := by
  induction n generalizing l e with
  | zero => simp [Rgt]
  | succ n ih =>
    rw [Rgt, ih (l + 1) (e / 2), Nat.div_div_eq_div_mul, ← pow_up, show Rgt l (n + 1) e = Rgt (l + 1) n (e / 2) ++ (if e % 2 = 1 then [(l, e - 1)] else []) from rfl, List.append_assoc, show l + 1 + n = l + (n + 1) by omega]
theorem Rgt_eq (n e : Nat) : Rgt 0 n e = RgtT n e := by
  induction n with
  | zero => rfl
  | succ n ih => rw [Rgt_top, ih, RgtT, Nat.zero_add]
def negm (n b : Nat) : Nat := (2 ^ n - b % 2 ^ n) % 2 ^ n
theorem negm_zero (b : Nat) : negm 0 b = 0 := by simp [negm, Nat.mod_one]
theorem negm_even (n b : Nat) (h : b % 2 = 0) : negm (n + 1) b = 2 * negm n (b / 2) := by
  unfold negm
  have hp := Nat.two_pow_pos n
  rw [pow_up, mod_double b (2 ^ n) h, ← Nat.mul_sub, mod_double _ _ (by omega), Nat.mul_div_cancel_left _ (by decide)]
theorem negm_odd (n b : Nat) (h : b % 2 = 1) : negm (n + 1) b = 2 * negm n ((b + 1) / 2) + 1 := by
  have h1 := negm_even n (b + 1) (by omega)
  have hp := Nat.two_pow_pos n
  unfold negm at h1 ⊢
  rw [pow_up] at h1 ⊢
  have h2 : (b + 1) % (2 * 2 ^ n) = if b % (2 * 2 ^ n) + 1 = 2 * 2 ^ n then 0 else b % (2 * 2 ^ n) + 1 := by
    have h3 : b % (2 * 2 ^ n) < 2 * 2 ^ n := Nat.mod_lt _ (by omega)
    rw [Nat.add_mod]
    split
    · rename_i h4
      by_cases h5 : 2 * 2 ^ n = 1
      · omega
      · rw [Nat.mod_eq_of_lt (by omega : 1 < 2 * 2 ^ n), h4, Nat.mod_self]
    · rw [Nat.mod_eq_of_lt (by omega : 1 < 2 * 2 ^ n), Nat.mod_eq_of_lt (by omega)]
  have h4 : b % (2 * 2 ^ n) < 2 * 2 ^ n := Nat.mod_lt _ (by omega)
  have h5 : b % (2 * 2 ^ n) % 2 = 1 := by rw [Nat.mod_mul_right_mod]; exact h
  rw [h2] at h1
  rw [Nat.mod_eq_of_lt (by omega : 2 * 2 ^ n - b % (2 * 2 ^ n) < 2 * 2 ^ n)]
  split at h1
  · rename_i h6
    rw [Nat.sub_zero, Nat.mod_self] at h1; omega
  · rw [Nat.mod_eq_of_lt (by omega)] at h1; omega
theorem ones_Lft (n l b : Nat) : (Lft l n b).length = ones (negm n b) := by
  induction n generalizing l b with
  | zero => rw [negm_zero, ones_zero]; rfl
  | succ n ih =>
    rw [Lft, List.length_append, ih]
    by_cases h : b % 2 = 1
    · rw [if_pos h, negm_odd n b h, ones_half (2 * _ + 1), show (2 * negm n ((b + 1) / 2) + 1) % 2 = 1 by omega, show (2 * negm n ((b + 1) / 2) + 1) / 2 = negm n ((b + 1) / 2) by omega]; rfl
    · rw [if_neg h, negm_even n b (by omega), ones_half (2 * _), show (2 * negm n (b / 2)) % 2 = 0 by omega, show (2 * negm n (b / 2)) / 2 = negm n (b / 2) by omega, show (b + 1) / 2 = b / 2 by omega]; rfl
theorem ones_top (n e : Nat) : ones (e % 2 ^ (n + 1)) = e / 2 ^ n % 2 + ones (e % 2 ^ n) := by
  have h := ones_split n (e % 2 ^ (n + 1))
  have h1 : e % 2 ^ (n + 1) % 2 ^ n = e % 2 ^ n := Nat.mod_mod_of_dvd _ ⟨2, by rw [Nat.pow_succ]⟩
  have h2 : e % 2 ^ (n + 1) / 2 ^ n = e / 2 ^ n % 2 := by rw [Nat.pow_succ, Nat.mod_mul_right_div_self]
  rw [h1, h2] at h
  have h3 : ones (e / 2 ^ n % 2) = e / 2 ^ n % 2 := by
    rcases Nat.mod_two_eq_zero_or_one (e / 2 ^ n) with h4 | h4 <;> rw [h4]
    · exact ones_zero
    · rw [ones_half, ones_zero]
  omega
theorem ones_RgtT (n e : Nat) : (RgtT n e).length = ones (e % 2 ^ n) := by
  induction n with
  | zero => simp [RgtT, Nat.mod_one, ones_zero]
  | succ n ih =>
    rw [RgtT, List.length_append, ih, ones_top]
    by_cases h : e / 2 ^ n % 2 = 1
    · rw [if_pos h, h]; rfl
    · rw [if_neg h, show e / 2 ^ n % 2 = 0 by omega]; rfl
theorem Nds_shift (k b e : Nat) : Nds 0 (b * 2 ^ k) (e * 2 ^ k) = Nds k b e := by
  suffices h : ∀ k l, Nds l (b * 2 ^ k) (e * 2 ^ k) = Nds (l + k) b e by simpa using h k 0
  intro k
  induction k with
  | zero => intro l; simp
  | succ k ih =>
    intro l
    have e1 : b * 2 ^ (k + 1) = 2 * (b * 2 ^ k) := by rw [pow_up, Nat.mul_left_comm]
    have e2 : e * 2 ^ (k + 1) = 2 * (e * 2 ^ k) := by rw [pow_up, Nat.mul_left_comm]
    rw [show l + (k + 1) = l + 1 + k by omega, ← ih (l + 1), e1, e2]
    by_cases h : b * 2 ^ k < e * 2 ^ k
    · rw [Nds_some (by omega), if_neg (by omega), if_neg (by omega), show (2 * (b * 2 ^ k) + 1) / 2 = b * 2 ^ k by omega, show 2 * (e * 2 ^ k) / 2 = e * 2 ^ k by omega]; simp
    · rw [Nds_empty (by omega), Nds_empty (by omega)]
theorem Nds_nonempty {l b e : Nat} (h : b < e) : 0 < (Nds l b e).length := by rw [Nds_step l b e h]; simp
theorem and_neg_odd (m M : Nat) (h : M % 2 = 1) (hM : M < 2 ^ m) : M &&& (2 ^ m - M) = 1 := by
  obtain ⟨m, rfl⟩ : ∃ k, m = k + 1 := ⟨m - 1, by cases m with | zero => simp at hM; omega | succ m => rfl⟩
  rw [Nat.pow_succ] at hM ⊢
  have hd := Nat.and_div_two (a := M) (b := 2 ^ m * 2 - M)
  have hm := Nat.and_mod_two_pow (a := M) (b := 2 ^ m * 2 - M) (n := 1)
  rw [Nat.pow_one, h, show (2 ^ m * 2 - M) % 2 = 1 by omega] at hm
  rw [show (2 ^ m * 2 - M) / 2 = 2 ^ m - (M / 2 + 1) by omega] at hd
  have hz : M / 2 &&& (2 ^ m - (M / 2 + 1)) = 0 := by
    apply Nat.eq_of_testBit_eq
    intro i
    rw [Nat.testBit_and, Nat.testBit_two_pow_sub_succ (by omega), Nat.zero_testBit]
    cases (M / 2).testBit i <;> simp
  have : (1 &&& 1 : Nat) = 1 := rfl
  omega
theorem and_mul_pow (l x y : Nat) : (2 ^ l * x) &&& (2 ^ l * y) = 2 ^ l * (x &&& y) := by
  have h1 := Nat.and_div_two_pow (a := 2 ^ l * x) (b := 2 ^ l * y) (n := l)
  have h2 := Nat.and_mod_two_pow (a := 2 ^ l * x) (b := 2 ^ l * y) (n := l)
  rw [Nat.mul_div_cancel_left _ (Nat.two_pow_pos l), Nat.mul_div_cancel_left _ (Nat.two_pow_pos l)] at h1
  rw [Nat.mul_mod_right, Nat.mul_mod_right, Nat.and_self] at h2
  have h3 := Nat.div_add_mod ((2 ^ l * x) &&& (2 ^ l * y)) (2 ^ l)
  rw [h1, h2] at h3; omega
end Go.Proofs.YtielnphmcaecdaaDoor.Mth
namespace Go.Proofs.YtielnphmcaecdaaDoor.PAll
open Go.IntWalk Go.RowKit Go.Proofs.YtielnphmcaecdaaDoor.Num Go.Proofs.YtielnphmcaecdaaDoor.Mth Go.Proofs.YtielnphmcaecdaaDoorW.PrintWords Go.Proofs.YtielnphmcaecdaaDoorW.PrintLast Go.Proofs.YtielnphmcaecdaaDoorW.PrintMore
set_option linter.unusedVariables false
set_option linter.unusedSimpArgs false
def tones (E : Nat) : Nat := lev (E + 1) (2 * (E + 1))
def tzn (E : Nat) : Nat := lev E (2 * E)
theorem tones_odd (E t : Nat) (h : t < tones E) : E / 2 ^ t % 2 = 1 := by
  obtain ⟨h1, _, _⟩ := lev_spec (E + 1) (2 * (E + 1)) (by omega)
  have hd : 2 ^ (t + 1) ∣ E + 1 := Nat.dvd_trans (Nat.pow_dvd_pow 2 h) (Nat.dvd_of_mod_eq_zero h1)
  obtain ⟨m, hm⟩ := hd
  have hp := Nat.two_pow_pos t
  have hm0 : 0 < m := by
    rcases Nat.eq_zero_or_pos m with h | h
    · rw [h, Nat.mul_zero] at hm; omega
    · exact h
  obtain ⟨d, rfl⟩ : ∃ d, m = d + 1 := ⟨m - 1, by omega⟩
  have e : E = (2 ^ t - 1) + 2 ^ t * (2 * d + 1) := by
    rw [Nat.pow_succ] at hm
    have e1 : 2 ^ t * 2 * (d + 1) = 2 ^ t * (2 * d + 1) + 2 ^ t := by
      rw [Nat.mul_assoc, show 2 * (d + 1) = (2 * d + 1) + 1 by omega, Nat.mul_add (2 ^ t) (2 * d + 1) 1, Nat.mul_one]
    omega
  rw [e, Nat.add_mul_div_left _ _ hp, Nat.div_eq_of_lt (by omega)]; omega
def mseed (F : List Int → List Int → Option (List Int)) (xs : List (List Int)) (x : List Int) : Nat → Option (List Int)
  | 0 => some x
  | t + 1 => (mseed F xs x t).bind fun s => F (xs.getD (xs.length - 1 - t) []) s
theorem mseed_some {F : List Int → List Int → Option (List Int)} {xs : List (List Int)} {x : List Int} : ∀ (T : Nat) (r : List Int), mseed F xs x T = some r → ∀ t, t ≤ T → ∃ s, mseed F xs x t = some s
  | 0, r, h, t, ht => by
    obtain rfl : t = 0 := by omega
    exact ⟨r, h⟩
  | T + 1, r, h, t, ht => by
    by_cases e : t = T + 1
    · subst e; exact ⟨r, h⟩
    · rw [mseed] at h
      obtain ⟨s, hs, _⟩ := Option.bind_eq_some_iff.mp h
      exact mseed_some T s hs t (by omega)
def sdsOf (F : List Int → List Int → Option (List Int)) (xs : List (List Int)) (x : List Int) (t : Nat) : List Int := (mseed F xs x t).getD []
theorem mseed_of {F : List Int → List Int → Option (List Int)} {xs : List (List Int)} {x : List Int} {T : Nat} {r : List Int} (h : mseed F xs x T = some r) {t : Nat} (ht : t ≤ T) : mseed F xs x t = some (sdsOf F xs x t) := by
  obtain ⟨s, hs⟩ := mseed_some T r h t ht
  unfold sdsOf
  rw [hs]; rfl
def mpOk (k E : Nat) : Bool := decide (compact_getMergePath.f k 0 (E : Int) ((E + 1 : Nat) : Int) = some (if E = 0 then ((64 : Int), (63 : Int)) else (((if tones E = 0 then tzn E else 0 : Nat) : Int), ((if tones E = 0 then tzn E else tones E : Nat) : Int)))) &&
  decide (bits_OnesCount64.f (Go.bits .and .u64 ((E : Int) / 2 ^ min (if tones E = 0 then tzn E else 0) 64) (IntKind.u64.wrap (IntKind.u64.wrap (2 ^ min (tones E) 64) - 1))) = some (tones E : Int)) && decide (E = 0 → bits_OnesCount64.f (Go.bits .and .u64 ((E : Int) / 2 ^ min 64 64) 0) = some 0) && decide ((if tones E = 0 then tzn E else 0) + tones E ≤ 64)
def stepOk (F : List Int → List Int → Option (List Int)) (k E : Nat) (xs : List (List Int)) (x : List Int) (nv : Nat) : Bool :=
  mpOk k E && (decide (tones E ≤ xs.length) && (decide (xs.length < 1099511627776) && (decide (nv + 65 < 1099511627776) && (List.range (tones E + 1)).all fun t => decide ((sdsOf F xs x t).length ≤ 140737488355328))))
def stepV (F : List Int → List Int → Option (List Int)) (E : Nat) (xs : List (List Int)) (x : List Int) : List S51 := ⟨⟨0, (E : Int)⟩, x⟩ :: visA 0 (fun t => ((E / 2 ^ t : Nat) : Int)) (sdsOf F xs x) (tones E)
def stepApp (F : List Int → List Int → Option (List Int)) (k E : Nat) (xs : List (List Int)) (x : List Int) (nv : Nat) : Option (List (List Int) × List S51) :=
  (mseed F xs x (tones E)).bind fun s => if stepOk F k E xs x nv = true then some (xs.take (xs.length - tones E) ++ [s], stepV F E xs x) else none
def appAll (F : List Int → List Int → Option (List Int)) (k : Nat) : Nat → List (List Int) → List S51 → List (List Int) → Option (List (List Int) × List S51)
  | _, xs, vs, [] => some (xs, vs)
  | E, xs, vs, x :: l => (stepApp F k E xs x vs.length).bind fun p => appAll F k (E + 1) p.1 (vs ++ p.2) l
theorem mseed_mono {F F' : List Int → List Int → Option (List Int)} (h : ∀ a b, LeO (F a b) (F' a b)) (xs : List (List Int)) (x : List Int) : ∀ t, LeO (mseed F xs x t) (mseed F' xs x t)
  | 0 => LeO.refl _
  | t + 1 => LeO.bind (mseed_mono h xs x t) (fun s => h _ s)
theorem mpOk_mono {k E : Nat} (h : mpOk k E = true) : mpOk (k + 1) E = true := by
  unfold mpOk at h ⊢
  simp only [Bool.and_eq_true, decide_eq_true_eq] at h ⊢
  obtain ⟨⟨⟨h1, h2⟩, h3⟩, h4⟩ := h
  exact ⟨⟨⟨compact_getMergePath.mono _ _ _ _ _ h1, h2⟩, h3⟩, h4⟩
theorem stepApp_mono {F F' : List Int → List Int → Option (List Int)} (h : ∀ a b, LeO (F a b) (F' a b)) (k E : Nat) (xs : List (List Int)) (x : List Int) (nv : Nat) : LeO (stepApp F k E xs x nv) (stepApp F' (k + 1) E xs x nv) := by
  intro r hr
  unfold stepApp at hr ⊢
  obtain ⟨s, hs, hr⟩ := Option.bind_eq_some_iff.mp hr
  have e : ∀ t, t ≤ tones E → sdsOf F' xs x t = sdsOf F xs x t := fun t ht => by
    have h1 := mseed_of hs ht
    have h2 := mseed_mono h xs x t _ h1
    unfold sdsOf at h2 ⊢
    rw [h2]; rfl
  by_cases hok : stepOk F k E xs x nv = true
  case neg => rw [if_neg hok] at hr; cases hr
  rw [if_pos hok] at hr
  have hok' : stepOk F' (k + 1) E xs x nv = true := by
    unfold stepOk at hok ⊢
    simp only [Bool.and_eq_true] at hok ⊢
    refine ⟨mpOk_mono hok.1, hok.2.1, hok.2.2.1, hok.2.2.2.1, ?_⟩
    have := hok.2.2.2.2
    refine List.all_eq_true.mpr (fun t ht => ?_)
    rw [e t (by have := List.mem_range.mp ht; omega)]
    exact List.all_eq_true.mp this t ht
  have hv : stepV F' E xs x = stepV F E xs x := by
    unfold stepV visA
    congr 1
    refine List.map_congr_left (fun t ht => ?_)
    rw [e (t + 1) (by have := List.mem_range.mp ht; omega)]
  rw [mseed_mono h xs x _ _ hs, Option.bind_some, if_pos hok', hv]
  exact hr
theorem appAll_mono {F F' : List Int → List Int → Option (List Int)} (h : ∀ a b, LeO (F a b) (F' a b)) (k : Nat) : ∀ (l : List (List Int)) (E : Nat) (xs : List (List Int)) (vs : List S51), LeO (appAll F k E xs vs l) (appAll F' (k + 1) E xs vs l)
  | [], _, _, _ => LeO.refl _
  | x :: l, E, xs, vs => LeO.bind (stepApp_mono h k E xs x _) (fun p => appAll_mono h k l (E + 1) p.1 (vs ++ p.2))
def impl_Append.f (k : Nat) (a0 a1 a2 a3 a4 a5 b e : Int) (hs l : List (List Int)) : Option (Int × Int × List (List Int) × List S51 × Bool) :=
  if b = 0 ∧ 0 ≤ e ∧ e + (l.length : Int) < 4611686018427387904 ∧ compact_RangeSize.f k b e = some (hs.length : Int) then (impl_texts.f k hs).bind fun xs => (impl_texts.f k l).bind fun ls => if xs.length = hs.length ∧ ls.length = l.length then (appAll (impl_toy_HashChildren.f k a0 a1 a2 a3 a4 a5) k e.toNat xs [] ls).bind fun p => (impl_texts.f k p.1).bind fun r => some (0, ((e.toNat + l.length : Nat) : Int), r, p.2, true) else none else none
theorem impl_Append.mono : ∀ a0 a1 a2 a3 a4 a5 b e hs l k, LeO (impl_Append.f k a0 a1 a2 a3 a4 a5 b e hs l) (impl_Append.f (k + 1) a0 a1 a2 a3 a4 a5 b e hs l) := by
  intro a0 a1 a2 a3 a4 a5 b e hs l k
  unfold impl_Append.f
  by_cases h : b = 0 ∧ 0 ≤ e ∧ e + (l.length : Int) < 4611686018427387904 ∧ compact_RangeSize.f k b e = some (hs.length : Int)
  case neg => rw [if_neg h]; exact LeO.none _
  rw [if_pos h, if_pos ⟨h.1, h.2.1, h.2.2.1, compact_RangeSize.mono _ _ _ _ h.2.2.2⟩]
  exact LeO.bind (impl_texts.mono _ _) (fun x => LeO.bind (impl_texts.mono _ _) (fun y => LeO.ite (LeO.bind (appAll_mono (fun a b => impl_toy_HashChildren.mono _ _ _ _ _ _ _ _ _) k _ _ _ _) (fun p => LeO.bind (impl_texts.mono _ _) (fun _ => LeO.refl _))) (LeO.refl _)))
end Go.Proofs.YtielnphmcaecdaaDoor.PAll
namespace Go.Proofs.YtielnphmcaecdaaDoor.PAll
open Go.IntWalk Go.RowKit Go.Proofs.YtielnphmcaecdaaDoor.Num Go.Proofs.YtielnphmcaecdaaDoor.Mth Go.Proofs.YtielnphmcaecdaaDoorW.PrintWords Go.Proofs.YtielnphmcaecdaaDoorW.PrintLast Go.Proofs.YtielnphmcaecdaaDoorW.PrintMore
set_option linter.unusedVariables false
set_option linter.unusedSimpArgs false
theorem and_one_odd (n : Nat) (hn : n < 18446744073709551616) (h : n % 2 = 1) : Go.bits .and .u64 (n : Int) 1 = 1 := by
  have h4 := u64_and_nat n 1 hn (by omega)
  rw [Nat.and_one_is_mod, h] at h4
  exact h4
theorem visA_congr {l1 l2 : Nat} {i1 i2 : Nat → Int} {s : Nat → List Int} {D : Nat} (hl : 0 < D → l1 = l2) (hi : ∀ t, t < D → i1 (t + 1) = i2 (t + 1)) : visA l1 i1 s D = visA l2 i2 s D := by
  unfold visA
  refine List.map_congr_left (fun t ht => ?_)
  have h := List.mem_range.mp ht
  rw [hi t h, hl (by omega)]
theorem tones_zero : tones 0 = 0 := by unfold tones; rw [lev, if_neg (by omega)]
set_option maxHeartbeats 4000000 in
theorem stepApp.calls (k : Nat) (a0 a1 a2 a3 a4 a5 : Int) (tb p fq q E : Nat) (A : Option Addr) (c : Nat) (ss : List SH) (xs : List (List Int)) (As : Option Addr) (ns cs : Nat) (x : List Int) (SV : Value) (vs : List S51) (w : World) (xs2 : List (List Int)) (V : List S51)
    (h1 : 1 ≤ tb) (h1q : 1 ≤ q) (hG : Glob w) (htb : tb ≤ w.heap.size) (R : RgAt w tb p fq a0 a1 a2 a3 a4 a5 0 (E : Int) A c ss xs) (hs : Txt tb w (As, ns, cs) x) (hq : w.heap[q]? = some (.cells #[SV] 36 (0, 0))) (hS : Kd.S k51 51 w tb (fun _ => True) SV vs) (hE : E + 1 < 18446744073709551616)
    (h : stepApp (impl_toy_HashChildren.f k a0 a1 a2 a3 a4 a5) k E xs x vs.length = some (xs2, V)) :
    Calls Tryd.prog 59 #[.pointer (some ⟨p, 0, none⟩), .slice As ns cs, .func (.func 60) #[] #[.pointer (some ⟨q, 0, none⟩)]] w fun ex w' => ex = .returned .nilIface ∧ Appd w w' tb p fq q a0 a1 a2 a3 a4 a5 0 ((E + 1 : Nat) : Int) A c ss.length xs2 (vs ++ V) := by
  unfold stepApp at h
  obtain ⟨s, hm, h⟩ := Option.bind_eq_some_iff.mp h
  by_cases hok : stepOk (impl_toy_HashChildren.f k a0 a1 a2 a3 a4 a5) k E xs x vs.length = true
  case neg => rw [if_neg hok] at h; cases h
  rw [if_pos hok] at h
  have h := Option.some.inj h
  simp only [Prod.mk.injEq] at h
  obtain ⟨rfl, rfl⟩ := h
  unfold stepOk mpOk at hok
  simp only [Bool.and_eq_true, decide_eq_true_eq] at hok
  obtain ⟨⟨⟨⟨m1, m2⟩, m3⟩, m4⟩, o1, o2, o3, o4⟩ := hok
  have hw : IntKind.u64.wrap ((E : Int) + 1) = ((E + 1 : Nat) : Int) := (congrArg IntKind.u64.wrap (by omega : (E : Int) + 1 = ((E + 1 : Nat) : Int))).trans (u64in hE)
  have hlen : ∀ t, t ≤ tones E → (sdsOf (impl_toy_HashChildren.f k a0 a1 a2 a3 a4 a5) xs x t).length ≤ 140737488355328 := fun t ht => by
    have := List.all_eq_true.mp o4 t (List.mem_range.mpr (by omega))
    simpa using this
  have hs0 : sdsOf (impl_toy_HashChildren.f k a0 a1 a2 a3 a4 a5) xs x 0 = x := rfl
  have hsT : sdsOf (impl_toy_HashChildren.f k a0 a1 a2 a3 a4 a5) xs x (tones E) = s := by unfold sdsOf; rw [hm]; rfl
  have hstep : ∀ t, t < tones E → impl_toy_HashChildren.f k a0 a1 a2 a3 a4 a5 (xs.getD (xs.length - 1 - t) []) (sdsOf (impl_toy_HashChildren.f k a0 a1 a2 a3 a4 a5) xs x t) = some (sdsOf (impl_toy_HashChildren.f k a0 a1 a2 a3 a4 a5) xs x (t + 1)) := fun t ht => by
    have g1 := mseed_of hm (show t ≤ tones E by omega)
    have g2 := mseed_of hm (show t + 1 ≤ tones E by omega)
    rw [mseed, g1, Option.bind_some] at g2
    exact g2
  have hHA : ∀ (W : World) (SV' : Value), Glob W → tb ≤ W.heap.size → RgAt W tb p fq a0 a1 a2 a3 a4 a5 0 (E : Int) A c ss xs → Txt tb W (As, ns, cs) x → W.heap[q]? = some (.cells #[SV'] 36 (0, 0)) → Kd.S k51 51 W tb (fun _ => True) SV' (vs ++ [⟨⟨0, (E : Int)⟩, x⟩]) →
      Calls Tryd.prog 90 #[.pointer (some ⟨p, 0, none⟩), .int .u64 (IntKind.u64.wrap ((E : Int) + 1)), .slice As ns cs, .slice none 0 0, .func (.func 60) #[] #[.pointer (some ⟨q, 0, none⟩)]] W fun ex w' => ex = .returned .nilIface ∧ Appd W w' tb p fq q a0 a1 a2 a3 a4 a5 0 ((E + 1 : Nat) : Int) A c ss.length (xs.take (xs.length - tones E) ++ [s]) (vs ++ [⟨⟨0, (E : Int)⟩, x⟩] ++ visA 0 (fun t => ((E / 2 ^ t : Nat) : Int)) (sdsOf (impl_toy_HashChildren.f k a0 a1 a2 a3 a4 a5) xs x) (tones E)) := by
    intro W SV' gG gtb gR gs gq gS
    rw [hw]
    by_cases hE0 : E = 0
    · subst hE0
      rw [if_pos rfl] at m1
      have hx : x = s := by rw [← hsT, tones_zero]; rfl
      refine (appendNone.calls k a0 a1 a2 a3 a4 a5 tb p fq q 0 ((0 : Nat) : Int) ((0 + 1 : Nat) : Int) 64 63 A c ss xs As ns cs SV' (vs ++ [⟨⟨0, ((0 : Nat) : Int)⟩, x⟩]) x W gG gtb gR gs gq gS m1 (by omega) (by omega) (m3 rfl) o2).mono ?_
      rintro ex w' ⟨rfl, hA⟩
      refine ⟨rfl, ?_⟩
      rw [tones_zero, Nat.sub_zero, List.take_length, show visA 0 (fun t => ((0 / 2 ^ t : Nat) : Int)) (sdsOf (impl_toy_HashChildren.f k a0 a1 a2 a3 a4 a5) xs x) 0 = [] from rfl, List.append_nil, ← hx]
      exact hA
    · rw [if_neg hE0] at m1
      obtain ⟨low, hlow⟩ : ∃ low, (if tones E = 0 then tzn E else 0) = low := ⟨_, rfl⟩
      rw [hlow] at m1 m2 m4
      have hhiv : (((if tones E = 0 then tzn E else tones E : Nat) : Int)) = ((low + tones E : Nat) : Int) := by
        rw [← hlow]
        by_cases ht : tones E = 0
        · rw [if_pos ht, if_pos ht, ht, Nat.add_zero]
        · rw [if_neg ht, if_neg ht, Nat.zero_add]
      have hlow0 : 0 < tones E → low = 0 := fun ht => by rw [← hlow, if_neg (by omega)]
      have hEd : ∀ t, E / 2 ^ low / 2 ^ t < 18446744073709551616 := fun t => Nat.lt_of_le_of_lt (Nat.le_trans (Nat.div_le_self _ _) (Nat.div_le_self _ _)) (by omega)
      refine (appendOnes.calls k a0 a1 a2 a3 a4 a5 tb p fq q 0 (E : Int) ((E + 1 : Nat) : Int) low (tones E) _ A c ss xs As ns cs SV' (vs ++ [⟨⟨0, (E : Int)⟩, x⟩]) (fun t => ((E / 2 ^ low / 2 ^ t : Nat) : Int)) (sdsOf (impl_toy_HashChildren.f k a0 a1 a2 a3 a4 a5) xs x) W gG gtb gR gs gq gS m1 hhiv m4 ?_ ?_ ?_ m2 o1 o2 ?_ hstep hlen).mono ?_
      · show ((E / 2 ^ low / 2 ^ 0 : Nat) : Int) = (E : Int) / 2 ^ min low 64
        rw [Nat.pow_zero, Nat.div_one, Nat.min_eq_left (by omega), Int.natCast_ediv, Int.natCast_pow]; rfl
      · intro t ht
        show ((E / 2 ^ low / 2 ^ (t + 1) : Nat) : Int) = ((E / 2 ^ low / 2 ^ t : Nat) : Int) / 2
        rw [Nat.pow_succ, ← Nat.div_div_eq_div_mul]; omega
      · intro t ht
        refine and_one_odd _ (hEd t) ?_
        rw [hlow0 (by omega), Nat.pow_zero, Nat.div_one]
        exact tones_odd E t ht
      · rw [List.length_append, List.length_singleton]; omega
      · rintro ex w' ⟨rfl, hA⟩
        refine ⟨rfl, ?_⟩
        rw [hsT] at hA
        rw [visA_congr (l1 := 0) (l2 := low) (i2 := fun t => ((E / 2 ^ low / 2 ^ t : Nat) : Int)) (fun h => (hlow0 h).symm) (fun t ht => by show ((E / 2 ^ (t + 1) : Nat) : Int) = ((E / 2 ^ low / 2 ^ (t + 1) : Nat) : Int); rw [hlow0 (by omega), Nat.pow_zero, Nat.div_one])]
        exact hA
  have hr := rangeAppend.calls tb p fq q a0 a1 a2 a3 a4 a5 0 (E : Int) ((E + 1 : Nat) : Int) A c ss xs (xs.take (xs.length - tones E) ++ [s]) As ns cs x SV vs (visA 0 (fun t => ((E / 2 ^ t : Nat) : Int)) (sdsOf (impl_toy_HashChildren.f k a0 a1 a2 a3 a4 a5) xs x) (tones E)) w h1 h1q hG htb R hs hq hS (by omega) (by have := hlen 0 (Nat.zero_le _); rw [hs0] at this; exact this) hHA
  refine hr.mono ?_
  rintro ex w' ⟨rfl, hA⟩
  refine ⟨rfl, ?_⟩
  unfold stepV
  rw [List.append_assoc] at hA
  exact hA
end Go.Proofs.YtielnphmcaecdaaDoor.PAll
