-- Written by a program of this session (wip/tools)
import Derived.Test.YtielnphmcaecdaaDoorQRLExtTreeA
import Derived.Test.YtielnphmcaecdaaDoorQRLPAllx5
import Derived.Test.YtielnphmcaecdaaDoorQRLPAllx4
import Derived.Outline
import Derived.Deep.QuietTactic
import Derived.BigQuiet
import Derived.Deep.RegionWith
import Derived.Deep.RegionLaw
import Derived.IntWalk
import Derived.Test.YtielnphmcaecdaaDoorQRLExtTz
namespace Go.Proofs.YtielnphmcaecdaaDoor.PAll
open Go.IntWalk Go.RowKit Go.Proofs.YtielnphmcaecdaaDoorW.PrintWords Go.Proofs.YtielnphmcaecdaaDoorW.PrintLast Go.Proofs.YtielnphmcaecdaaDoorW.PrintMore
set_option linter.unusedVariables false
set_option linter.unusedSimpArgs false
structure RgAt (w : World) (tb p fq : Nat) (a0 a1 a2 a3 a4 a5 b e : Int) (A : Option Addr) (c : Nat) (ss : List SH) (xs : List (List Int)) : Prop where
  cell : w.heap[p]? = some (.cells #[.pointer (some ⟨fq, 0, none⟩), .int .u64 b, .int .u64 e, .slice A ss.length c] 148 (0, 0))
  fac : w.heap[fq]? = some (.cells #[.func (.func 50) #[toyV a0 a1 a2 a3 a4 a5] #[]] 92 (0, 0))
  row : Rw w tb (.slice A ss.length c) ss
  len : ss.length = xs.length
  txt : ∀ (j : Nat) (s : SH) (x : List Int), ss[j]? = some s → xs[j]? = some x → Txt tb w s x
theorem neq_nil (f q : Nat) (W : World) : (binOp BinOp.neq 149 (Value.func (Fn.func f) #[] #[.pointer (some ⟨q, 0, none⟩)]) Value.nilFunc).run Tryd.prog W = .ok (.bool true) W := by kernel_rfl
set_option maxHeartbeats 4000000 in
set_option maxRecDepth 100000 in
theorem newNode.calls (lv ix : Int) (w : World) : Calls Tryd.prog 94 #[.int .u64 lv, .int .u64 ix] w fun e w' => e = .returned (.agg #[.int .u64 lv, .int .u64 ix]) ∧ Below w.heap.size w w' := by
  have hu99 := Tryd.underlying99
  go_enter Tryd.func94, Tryd.ntmps94
  go_wp2_with (fail)
  refine bodyPost_ret (results_cell_row rfl _ _ w.heap.size 99 #[.int .u64 lv, .int .u64 ix] (0, 0) _ rfl (blk_new w _) Tryd.underlying99 rfl (by kernel_rfl)) rfl ?_
  exact ⟨rfl, below_alloc (Below.refl w.heap.size w) _⟩
theorem w64z {D : Nat} (h : D ≤ 64) : wrap64 (wrap64 (D : Int) - (D : Int)) = 0 := by unfold wrap64; omega
theorem ty_ne {w : World} {g g' t t' : Nat} {cs cs' : Array Value} (h : w.heap[g]? = some (.cells cs t (0, 0))) (h' : w.heap[g']? = some (.cells cs' t' (0, 0))) (hne : t ≠ t') : g ≠ g' := blk_ne h h' hne
theorem RgAt.vs {w w' : World} {tb p fq q : Nat} {a0 a1 a2 a3 a4 a5 b e : Int} {A : Option Addr} {c : Nat} {ss : List SH} {xs : List (List Int)} {SV : Array Value} (R : RgAt w tb p fq a0 a1 a2 a3 a4 a5 b e A c ss xs) (h : Vs q w w') (hq : w.heap[q]? = some (.cells SV 36 (0, 0))) : RgAt w' tb p fq a0 a1 a2 a3 a4 a5 b e A c ss xs where
  cell := h.blk R.cell (ty_ne R.cell hq (by decide)) (by decide)
  fac := h.blk R.fac (ty_ne R.fac hq (by decide)) (by decide)
  row := h.rw hq R.row
  len := R.len
  txt := fun j s x h1 h2 => (R.txt j s x h1 h2).pres (h.pres hq)
theorem RgAt.below {w w' : World} {tb p fq : Nat} {a0 a1 a2 a3 a4 a5 b e : Int} {A : Option Addr} {c : Nat} {ss : List SH} {xs : List (List Int)} (R : RgAt w tb p fq a0 a1 a2 a3 a4 a5 b e A c ss xs) (h : Below w.heap.size w w') : RgAt w' tb p fq a0 a1 a2 a3 a4 a5 b e A c ss xs where
  cell := blk_below R.cell h
  fac := blk_below R.fac h
  row := Kd.R_below R.row h
  len := R.len
  txt := fun j s x h1 h2 => (R.txt j s x h1 h2).pres (Pres5.below h)
structure Fx (p q : Nat) (row : Option Nat) (w w' : World) : Prop where
  os : w'.os = w.os
  tape : w'.tape = w.tape
  output : w'.output = w.output
  size : w.heap.size ≤ w'.heap.size
  block : ∀ k, k < w.heap.size → k ≠ p → k ≠ q → some k ≠ row → (∀ c, w.heap[k]? ≠ some (.cells c 51 (0, 0))) → w'.heap[k]? = w.heap[k]?
def visA (low : Nat) (ix : Nat → Int) (sds : Nat → List Int) (D : Nat) : List S51 := (List.range D).map fun t => ⟨⟨((low + t + 1 : Nat) : Int), ix (t + 1)⟩, sds (t + 1)⟩
theorem visA_succ (low : Nat) (ix : Nat → Int) (sds : Nat → List Int) (D : Nat) : visA low ix sds (D + 1) = visA low ix sds D ++ [⟨⟨((low + D + 1 : Nat) : Int), ix (D + 1)⟩, sds (D + 1)⟩] := by
  unfold visA
  rw [List.range_succ, List.map_append]; rfl
def Appd (w w' : World) (tb p fq q : Nat) (a0 a1 a2 a3 a4 a5 b en : Int) (A : Option Addr) (c n : Nat) (xs : List (List Int)) (vs : List S51) : Prop :=
  ∃ A' c' ss' SV', RgAt w' tb p fq a0 a1 a2 a3 a4 a5 b en A' c' ss' xs ∧ w'.heap[q]? = some (.cells #[SV'] 36 (0, 0)) ∧ Kd.S k51 51 w' tb (fun _ => True) SV' vs ∧ Fx p q (Value.slice A n c).ownBlock w w' ∧ (∀ B, B ≤ tb → B ≤ q → B ≤ p → Below B w w') ∧
    ((Value.slice A' ss'.length c').ownBlock = (Value.slice A n c).ownBlock ∨ ∃ g, (Value.slice A' ss'.length c').ownBlock = some g ∧ w.heap.size ≤ g)
theorem grown_two {w w1 w2 : World} {r0 : Option Nat} {v1 : Value} (h1 : w.grownBy w1 r0) (hat : v1.ownBlock = r0 ∨ ∃ g, v1.ownBlock = some g ∧ w.heap.size ≤ g) (h2 : w1.grownBy w2 v1.ownBlock) : w.grownBy w2 r0 :=
  ⟨h2.os.trans h1.os, h2.tape.trans h1.tape, h2.output.trans h1.output, Nat.le_trans h1.size h2.size, fun k hk hne => (h2.block k (Nat.lt_of_lt_of_le hk h1.size) (fun e => by
    rcases hat with h | ⟨g, hg, hle⟩
    · exact hne (e.trans h)
    · rw [hg] at e; injection e with e; omega)).trans (h1.block k hk hne)⟩
theorem hat_two {w w1 : World} {r0 : Option Nat} {v1 v2 : Value} (hs : w.heap.size ≤ w1.heap.size) (hat : v1.ownBlock = r0 ∨ ∃ g, v1.ownBlock = some g ∧ w.heap.size ≤ g) (hat2 : v2.ownBlock = v1.ownBlock ∨ ∃ g, v2.ownBlock = some g ∧ w1.heap.size ≤ g) : v2.ownBlock = r0 ∨ ∃ g, v2.ownBlock = some g ∧ w.heap.size ≤ g := by
  rcases hat2 with h | ⟨g, hg, hle⟩
  · rw [h]; exact hat
  · exact .inr ⟨g, hg, by omega⟩
theorem txt_snoc {w : World} {tb : Nat} {ss : List SH} {xs : List (List Int)} {s : SH} {x : List Int} (hl : ss.length = xs.length) (h : ∀ (j : Nat) (s : SH) (x : List Int), ss[j]? = some s → xs[j]? = some x → Txt tb w s x) (hx : Txt tb w s x) (m : Nat) (hm : m ≤ ss.length) :
    ∀ (j : Nat) (s' : SH) (x' : List Int), (ss.take m ++ [s])[j]? = some s' → (xs.take m ++ [x])[j]? = some x' → Txt tb w s' x' := by
  intro j s' x' h1 h2
  have l1 : (ss.take m).length = m := by rw [List.length_take]; omega
  have l2 : (xs.take m).length = m := by rw [List.length_take]; omega
  by_cases e : j < m
  · rw [List.getElem?_append_left (by omega), List.getElem?_take, if_pos e] at h1 h2
    exact h j s' x' h1 h2
  · have e2 : j = m := by
      have := (List.getElem?_eq_some_iff.1 h1).1
      rw [List.length_append, List.length_singleton] at this; omega
    subst e2
    rw [List.getElem?_append_right (by omega), l1, Nat.sub_self] at h1
    rw [List.getElem?_append_right (by omega), l2, Nat.sub_self] at h2
    obtain rfl := Option.some.inj h1
    obtain rfl := Option.some.inj h2
    exact hx
theorem own_at (A : Option Addr) (n m c d : Nat) : (Value.slice A n c).ownBlock = (Value.slice A m d).ownBlock := by cases A <;> rfl
theorem app_end {w wr w2 : World} {tb p fq q D : Nat} {a0 a1 a2 a3 a4 a5 b e en : Int} {A A6 : Option Addr} {c c6 : Nat} {ss : List SH} {xs : List (List Int)} {s : SH} {sd : List Int} {SV : Value} {vs : List S51} {L : Nat} (hL : L = (ss.take (ss.length - D) ++ [s]).length) (htb : tb ≤ w.heap.size) (R : RgAt wr tb p fq a0 a1 a2 a3 a4 a5 b e A c ss xs) (hs : Txt tb wr s sd)
    (hq : wr.heap[q]? = some (.cells #[SV] 36 (0, 0))) (hS : Kd.S k51 51 wr tb (fun _ => True) SV vs) (hVs : Vs q w wr) (hBB : ∀ B, B ≤ tb → B ≤ q → Below B w wr) (hR2 : Rw w2 tb (.slice A6 L c6) (ss.take (ss.length - D) ++ [s]))
    (hg : wr.grownBy w2 (Value.slice A ss.length c).ownBlock) (hat : (Value.slice A6 L c6).ownBlock = (Value.slice A ss.length c).ownBlock ∨ ∃ g, (Value.slice A6 L c6).ownBlock = some g ∧ wr.heap.size ≤ g) (hbw : Below tb wr w2) :
    Appd w ((w2.setCell ⟨p, 3, none⟩ (.slice A6 L c6)).setCell ⟨p, 2, none⟩ (.int .u64 en)) tb p fq q a0 a1 a2 a3 a4 a5 b en A c ss.length (xs.take (xs.length - D) ++ [sd]) vs := by
  subst hL
  have hty := Kd.R_typed R.row
  have hne : ∀ (g t : Nat) (cs : Array Value), wr.heap[g]? = some (.cells cs t (0, 0)) → t ≠ 27 → some g ≠ (Value.slice A ss.length c).ownBlock := fun g t cs h ht e => by
    obtain ⟨d, hd⟩ := hty g e.symm
    exact ty_ne h hd ht rfl
  have c2 := blk_grown R.cell hg (hne _ _ _ R.cell (by decide))
  have f2 := blk_grown R.fac hg (hne _ _ _ R.fac (by decide))
  have q2 := blk_grown hq hg (hne _ _ _ hq (by decide))
  have hfp : fq ≠ p := ty_ne R.fac R.cell (by decide)
  have hqp : q ≠ p := ty_ne hq R.cell (by decide)
  have c3 := blk_set c2 3 (.slice A6 (ss.take (ss.length - D) ++ [s]).length c6)
  have p1 : Pres5 wr w2 := Pres5.grown hg (fun k e => by obtain ⟨d, hd⟩ := hty k e; exact ⟨d, 27, by decide, hd⟩)
  have p2 := Pres5.set c2 (by decide) 3 (.slice A6 (ss.take (ss.length - D) ++ [s]).length c6)
  have p3 := Pres5.set c3 (by decide) 2 (.int .u64 en)
  refine ⟨A6, c6, _, SV, ⟨blk_set c3 2 (.int .u64 en), blk_far (blk_far f2 (p := ⟨p, 3, none⟩) hfp _) (p := ⟨p, 2, none⟩) hfp _, Kd.R_set (Kd.R_set hR2 c2 (by decide) _ _) c3 (by decide) _ _, ?_, ?_⟩, blk_far (blk_far q2 (p := ⟨p, 3, none⟩) hqp _) (p := ⟨p, 2, none⟩) hqp _, Kd.S_set (Kd.S_set (Kd.S_over' hS hty (by decide) hg) c2 (by decide) _ _) c3 (by decide) _ _, ?_, ?_, ?_⟩
  · rw [List.length_append, List.length_append, List.length_take, List.length_take, R.len]; rfl
  · intro j s' x' h1 h2
    rw [← R.len] at h2
    exact (((txt_snoc R.len R.txt hs (ss.length - D) (Nat.sub_le _ _) j s' x' h1 h2).pres p1).pres p2).pres p3
  · have hb0 := ((hBB 0 (Nat.zero_le _) (Nat.zero_le _)).trans (hbw.mono (Nat.zero_le _)))
    refine ⟨hb0.os, hb0.tape, hb0.output, by rw [World.size_setCell, World.size_setCell]; exact hb0.size, fun k hk h1 h2 h3 h4 => ?_⟩
    rw [Below.heap_setCell _ ⟨p, 2, none⟩ _ k h1, Below.heap_setCell _ ⟨p, 3, none⟩ _ k h1, hg.block k (Nat.lt_of_lt_of_le hk hVs.size) h3]
    exact hVs.block k hk h2 h4
  · intro B h1 h2 h3
    exact (((hBB B h1 h2).trans (hbw.mono h1)).setCell (p := ⟨p, 3, none⟩) h3 _).setCell (p := ⟨p, 2, none⟩) h3 _
  · rcases hat with h | ⟨g, h, hle⟩
    · exact .inl h
    · exact .inr ⟨g, h, Nat.le_trans hVs.size hle⟩
set_option maxHeartbeats 8000000 in
set_option maxRecDepth 100000 in
theorem appendOnes.calls (k : Nat) (a0 a1 a2 a3 a4 a5 : Int) (tb p fq q : Nat) (b e en : Int) (low D : Nat) (hiv : Int) (A : Option Addr) (c : Nat) (ss : List SH) (xs : List (List Int)) (As : Option Addr) (ns cs : Nat) (SV : Value) (vs : List S51) (ix : Nat → Int) (sds : Nat → List Int) (w : World)
    (hG : Glob w) (htb : tb ≤ w.heap.size) (R : RgAt w tb p fq a0 a1 a2 a3 a4 a5 b e A c ss xs) (hs : Txt tb w (As, ns, cs) (sds 0)) (hq : w.heap[q]? = some (.cells #[SV] 36 (0, 0))) (hS : Kd.S k51 51 w tb (fun _ => True) SV vs)
    (hmp : compact_getMergePath.f k b e en = some ((low : Int), hiv)) (hhi : hiv = ((low + D : Nat) : Int)) (hD64 : low + D ≤ 64)
    (hix0 : ix 0 = e / 2 ^ min low 64) (hixs : ∀ t, t < D → ix (t + 1) = ix t / 2) (hbit : ∀ t, t < D → Go.bits .and .u64 (ix t) 1 = 1)
    (hones : bits_OnesCount64.f (Go.bits .and .u64 (e / 2 ^ min low 64) (IntKind.u64.wrap (IntKind.u64.wrap (2 ^ min D 64) - 1))) = some (D : Int))
    (hDn : D ≤ xs.length) (hn : xs.length < 1099511627776) (hvs : vs.length + 64 < 1099511627776)
    (hsds : ∀ t, t < D → impl_toy_HashChildren.f k a0 a1 a2 a3 a4 a5 (xs.getD (xs.length - 1 - t) []) (sds t) = some (sds (t + 1))) (hsl : ∀ t, t ≤ D → (sds t).length ≤ 140737488355328) :
    Calls Tryd.prog 90 #[.pointer (some ⟨p, 0, none⟩), .int .u64 en, .slice As ns cs, .slice none 0 0, .func (.func 60) #[] #[.pointer (some ⟨q, 0, none⟩)]] w fun ex w' => ex = .returned .nilIface ∧ Appd w w' tb p fq q a0 a1 a2 a3 a4 a5 b en A c ss.length (xs.take (xs.length - D) ++ [sds D]) (vs ++ visA low ix sds D) := by
  have HG := Aside0.mk hG
  have HTB := Aside0.mk htb
  have HR := Aside0.mk R
  have HS := Aside0.mk hs
  have HQ := Aside0.mk hq
  have HV := Aside0.mk hS
  have HMP := Aside0.mk hmp
  have HON := Aside0.mk hones
  have g1 : decide (hiv < (low : Int)) = false := decide_eq_false (by omega)
  have hln := R.len
  have g2 : decide ((ss.length : Int) < (D : Int)) = false := decide_eq_false (by omega)
  have g3 : decide (ss.length < D) = false := decide_eq_false (by omega)
  have hlw : IntKind.u64.wrap (hiv - (low : Int)) = (D : Int) := by rw [hhi]; exact (congrArg IntKind.u64.wrap (by omega : (((low + D : Nat) : Int) - (low : Int)) = (D : Int))).trans (Go.Proofs.YtielnphmcaecdaaDoor.Num.u64in (by omega))
  have hzz : wrap64 (wrap64 (D : Int) - (D : Int)) = 0 := w64z (by omega)
  have HHI := Aside0.mk hhi
  have HD := Aside0.mk hD64
  have HI0 := Aside0.mk hix0
  have HIS := Aside0.mk hixs
  have HBT := Aside0.mk hbit
  have HDN := Aside0.mk hDn
  have HN := Aside0.mk hn
  have HVS := Aside0.mk hvs
  have HSD := Aside0.mk hsds
  have HSL := Aside0.mk hsl
  have y0 : w.cell? ⟨p, 0, none⟩ = some (.pointer (some ⟨fq, 0, none⟩)) := blk_cell R.cell 0
  have y1 : w.cell? ⟨p, 1, none⟩ = some (.int .u64 b) := blk_cell R.cell 1
  have y2 : w.cell? ⟨p, 2, none⟩ = some (.int .u64 e) := blk_cell R.cell 2
  have y3 : w.cell? ⟨p, 3, none⟩ = some (.slice A ss.length c) := blk_cell R.cell 3
  clear hones hln hG htb R hs hq hS hmp hhi hD64 hix0 hixs hbit hDn hn hvs hsds hsl
  go_enter Tryd.func90, Tryd.ntmps90
  go_wp2_with (fail)
  go_region_held_law (fun w' => w'.cell? ⟨p, 1, none⟩ = some (.int .u64 b) ∧ w'.cell? ⟨p, 2, none⟩ = some (.int .u64 e)) (first | exact ⟨y1, y2⟩ | go_keep) (first
    | (go_simp; go_at_call 111
       refine (compact_getMergePath.calls k b e en low hiv _ (HG.out.below (by repeat (first | exact Below.refl _ _ | apply Below.drew | apply below_drew))) HMP.out).mono ?_
       rintro ex wq ⟨rfl, hd⟩
       obtain ⟨⟨nd, rfl⟩⟩ := hd)
    | fail)
  go_wp2_with (fail)
  refine (bits_OnesCount64.calls _ (D : Int) _ HON.out).mono ?_
  rintro ex wq ⟨rfl, hd⟩
  obtain ⟨⟨nd2, rfl⟩⟩ := hd
  dsimp only
  go_wp2_with (fail)
  have hbd : Below w.heap.size w (w.drewN (1 + nd + nd2)) := pw_below_drewN (Below.refl _ _) _
  have HR1 := Aside0.mk (HR.out.below hbd)
  have HS1 := Aside0.mk (HS.out.pres (Pres5.below hbd))
  have HQ1 := Aside0.mk (blk_below HQ.out hbd)
  have HV1 := Aside0.mk (Kd.S_below HV.out hbd)
  have HVs := Aside0.mk (Vs.of (q := q) hbd)
  have HBB := Aside0.mk (show ∀ B, B ≤ tb → B ≤ q → Below B w (w.drewN (1 + nd + nd2)) from fun B h _ => hbd.mono (Nat.le_trans h HTB.out))
  generalize w.drewN (1 + nd + nd2) = W at hbd HR1 HS1 HQ1 HV1 HVs HBB ⊢
  clear y0 y1 y2 y3 HS HQ HV HMP HON hlw hzz g1 g2 g3 hbd
  rw [← HI0.out]
  go_loopg [2, 13, 18, 19, 20] D (fun kq v2 v13 v18 v19 v20 w' => ∃ (t : Nat) (s : SH) (SV' : Value), v2 = .slice s.1 s.2.1 s.2.2 ∧ v13 = .int .u64 (ix t) ∧ v18 = .int .i64 ((ss.length - t : Nat) : Int) ∧ v19 = .int .i64 0 ∧ v20 = .int .u64 ((low + t : Nat) : Int) ∧ Aside0 (t + kq = D) ∧ Aside0 (Txt tb w' s (sds t)) ∧ Aside0 (w'.heap[q]? = some (.cells #[SV'] 36 (0, 0))) ∧ Aside0 (Kd.S k51 51 w' tb (fun _ => True) SV' (vs ++ visA low ix sds t)) ∧ Aside0 (RgAt w' tb p fq a0 a1 a2 a3 a4 a5 b e A c ss xs) ∧ Aside0 (Vs q w w') ∧ Aside0 (∀ B, B ≤ tb → B ≤ q → Below B w w'))
  case atStart => exact ⟨0, (As, ns, cs), SV, rfl, rfl, rfl, rfl, rfl, ⟨by omega⟩, HS1, HQ1, ⟨by rw [show visA low ix sds 0 = [] from rfl, List.append_nil]; exact HV1.out⟩, HR1, HVs, HBB⟩
  case round =>
    clear HR1 HS1 HQ1 HV1 HVs HBB
    obtain ⟨t, ⟨A1, n1, c1⟩, SV1, rfl, rfl, rfl, rfl, rfl, HI, HS1, HQ1, HV1, HR1, HVs, HBB⟩ := hrel
    cases gk with
    | zero =>
      have et : t = D := by have := HI.out; omega
      subst et
      have g1 : decide (((low + t : Nat) : Int) < hiv) = false := decide_eq_false (by have := HHI.out; omega)
      have g1' : decide ((low : Int) + (t : Int) < hiv) = false := decide_eq_false (by have := HHI.out; omega)
      have hln : ss.length = xs.length := HR1.out.len
      obtain ⟨i0, hi0, _, hsz, _⟩ := info_parts info27
      have hRR := Kd.R_reads' HR1.out.row
      have hcut := cut_to (P := Tryd.prog) 25 27 .i64 Tryd.underlying25 hi0 A ss.length c ((ss.length - t : Nat) : Int) (by omega) (by omega) hRR.2.1
      rw [Int.toNat_natCast] at hcut
      have hcut2 := cut_from (P := Tryd.prog) 25 27 .i64 Tryd.underlying25 hi0 1 hsz none 0 0 (0 : Int) (by omega) (by omega)
      have hRT := Kd.R_take (m := ss.length - t) HR1.out.row (by omega)
      have y3 : wr.cell? ⟨p, 3, none⟩ = some (.slice A ss.length c) := blk_cell HR1.out.cell 3
      have z3 : ∀ o, (wr.alloc o).cell? ⟨p, 3, none⟩ = some (.slice A ss.length c) := fun o => (World.cell?_alloc_lt _ _ _ (blk_lt HR1.out.cell)).trans y3
      have HRT := Aside0.mk hRT
      have HSZ := Aside0.mk (show tb ≤ wr.heap.size from Nat.le_trans HTB.out HVs.out.size)
      have HLN := Aside0.mk hln
      clear hRR hRT hi0 hsz hln
      go_wp2_with (fail)
      go_region_law (first
        | (refine Kd.R_append_step kSH (w0 := wr) (W := wr.drew) tb ?hw (.tmp 137) (.tmp 139) 25 27 (.slice none 0 0) 24 rfl Tryd.underlying25 info27 rfl (by decide) (by omega) (.slice A (ss.length - t) c) (ss.take (ss.length - t)) (A1, n1, c1) [.slice A1 n1 c1] (fun _ => True) (fun _ => False) rfl rfl ?aP (fun _ h => h.elim) ?aF ?aO ?aB ?aS ?aL ?_
           (case hw => simp [Region.wanted])
           (case aP => rfl)
           (case aF => exact fun _ _ => trivial)
           (case aO => repeat (first | exact HRT.out | (refine Kd.R_alloc ?_ _) | (refine Kd.R_drewN ?_ _) | (refine Kd.R_drew ?_)))
           (case aB => repeat (first | exact Below.refl _ _ | apply Below.drew | apply below_drew))
           (case aS => exact Nat.le_trans HSZ.out (below_size (show Below wr.heap.size wr _ by repeat (first | exact Below.refl _ _ | apply Below.drew | apply below_drew))))
           (case aL => have := HN.out; have := HLN.out; rw [List.length_take]; omega)
           intro v1 w1 hR1 hB1 hg1 hat1
           obtain ⟨A5, n5, c5, rfl, hn5⟩ : ∃ A n c, v1 = .slice A n c ∧ n = (ss.take (ss.length - t) ++ [(A1, n1, c1)]).length := by
             obtain ⟨A, c, h⟩ := Kd.R_slice hR1
             exact ⟨A, _, c, h, rfl⟩
           have HN5 := Aside0.mk hn5
           rw [own_at A (ss.length - t) ss.length c c] at hg1 hat1
           have HR5 := Aside0.mk hR1
           have HB5 := Aside0.mk hB1
           have HG5 := Aside0.mk (grown_from (show Below wr.heap.size wr wr.drew from below_drew (Below.refl _ _)) hg1)
           have HAT5 := Aside0.mk (hat_from (show Below wr.heap.size wr wr.drew from below_drew (Below.refl _ _)) hat1)
           clear hR1 hB1 hg1 hat1 hn5)
        | (refine Kd.R_append_rows_step kSH (w0 := wr) (W := w1) tb ?hw (.tmp 140) (.tmp 143) 25 27 (.slice none 0 0) 24 rfl Tryd.underlying25 info27 rfl (by decide) (by omega) (.slice A5 n5 c5) (ss.take (ss.length - t) ++ [(A1, n1, c1)]) [] none 0 0 (fun _ => True) (fun _ => False) rfl rfl ?aO (Kd.C_nil kSH w1) (fun _ _ h => h) (fun _ h => h.elim) ?aF ?aB ?aS ?aL ?_
           (case hw => simp [Region.wanted])
           (case aO => exact HR5.out)
           (case aF => exact fun _ _ => trivial)
           (case aB => exact HB5.out)
           (case aS => exact Nat.le_trans HSZ.out (HG5.out.size))
           (case aL => have := HN.out; have := HLN.out; simp only [List.length_append, List.length_take, List.length_singleton]; omega)
           intro v2 w2 hR2 hB2 hg2 hat2
           rw [List.append_nil] at hR2
           obtain ⟨A6, n6, c6, rfl, hn6⟩ : ∃ A n c, v2 = .slice A n c ∧ n = (ss.take (ss.length - t) ++ [(A1, n1, c1)]).length := by
             obtain ⟨A, c, h⟩ := Kd.R_slice hR2
             exact ⟨A, _, c, h, rfl⟩
           have HN6 := Aside0.mk hn6
           have HR6 := Aside0.mk hR2
           have HB6 := Aside0.mk hB2
           have HG6 := Aside0.mk (grown_two HG5.out HAT5.out hg2)
           have HAT6 := Aside0.mk (hat_two HG5.out.size HAT5.out hat2)
           have hpc := blk_grown HR1.out.cell HG6.out (fun e => by obtain ⟨d, hd⟩ := Kd.R_typed HR1.out.row p e.symm; exact ty_ne HR1.out.cell hd (by decide) rfl)
           have f3 : w2.frozen? ⟨p, 3, none⟩ = false := blk_frozen hpc 3
           have f2 : w2.frozen? ⟨p, 2, none⟩ = false := blk_frozen hpc 2
           have y3_ : w2.cell? ⟨p, 3, none⟩ = some (.slice A ss.length c) := blk_cell hpc 3
           have y2_ : w2.cell? ⟨p, 2, none⟩ = some (.int .u64 e) := blk_cell hpc 2
           clear hR2 hB2 hg2 hat2 hpc hn6)
        | fail)
      all_goals
        go_wp2_with (fail)
        go_ret
        exact ⟨rfl, app_end HN6.out HTB.out HR1.out HS1.out HQ1.out HV1.out HVs.out HBB.out HR6.out HG6.out HAT6.out HB6.out⟩
    | succ k1 =>
      have ht : t < D := by have := HI.out; omega
      have g1 : decide (((low + t : Nat) : Int) < hiv) = true := decide_eq_true (by have := HHI.out; omega)
      have g1' : decide ((low : Int) + (t : Int) < hiv) = true := decide_eq_true (by have := HHI.out; omega)
      have hbit := HBT.out t ht
      have g2 : (Go.bits .and .u64 (ix t) 1 == 0) = false := by rw [hbit]; rfl
      have hln : ss.length = xs.length := HR1.out.len
      obtain ⟨m, hm⟩ : ∃ m, m = ss.length - 1 - t := ⟨_, rfl⟩
      have hml : m < ss.length := by have := HDN.out; omega
      have hidx : wrap64 (((ss.length - t : Nat) : Int) - 1) = (m : Int) := by
        have := HDN.out; have := HN.out
        unfold wrap64; omega
      obtain ⟨g0, cc, e0, hg0⟩ := kSH_form (s := (A, ss.length, c)) HR1.out.row (by omega)
      simp only [Prod.mk.injEq] at e0
      obtain ⟨rfl, -, rfl⟩ := e0
      obtain ⟨⟨Am, nm, cm⟩, hsm⟩ : ∃ s, ss[m]? = some s := ⟨_, List.getElem?_eq_getElem hml⟩
      obtain ⟨xm, hxm⟩ : ∃ x, xs[m]? = some x := ⟨_, List.getElem?_eq_getElem (by omega)⟩
      have x1 : wr.cell? ⟨g0, m, none⟩ = some (.slice Am nm cm) := (kSH_cell HR1.out.row hsm).1
      obtain ⟨rfl, hy2, hy3⟩ := (HR1.out.txt m _ _ hsm hxm).read
      obtain ⟨rfl, hx2, hx3⟩ := HS1.out.read
      have hcall := HSD.out t ht
      rw [← hln, ← hm, List.getD_eq_getElem?_getD, hxm, Option.getD_some] at hcall
      have d0 : 0 ≤ (m : Int) := by omega
      have d1 : (m : Int) < (ss.length : Int) := by omega
      have d2 : decide ((m : Int) < (ss.length : Int)) = true := decide_eq_true d1
      have d3 : decide (m < ss.length) = true := decide_eq_true hml
      have y0 : wr.cell? ⟨p, 0, none⟩ = some (.pointer (some ⟨fq, 0, none⟩)) := blk_cell HR1.out.cell 0
      have y3 : wr.cell? ⟨p, 3, none⟩ = some (.slice (some ⟨g0, 0, none⟩) ss.length c) := blk_cell HR1.out.cell 3
      have y4 : wr.cell? ⟨fq, 0, none⟩ = some (.func (.func 50) #[toyV a0 a1 a2 a3 a4 a5] #[]) := blk_cell HR1.out.fac 0
      have HY2 := Aside0.mk hy2
      have HY3 := Aside0.mk hy3
      have HX2 := Aside0.mk hx2
      have HX3 := Aside0.mk hx3
      have HCL := Aside0.mk hcall
      have HTD := Aside0.mk ht
      have HL0 := Aside0.mk (show p < wr.heap.size from blk_lt HR1.out.cell)
      have HL1 := Aside0.mk (show fq < wr.heap.size from blk_lt HR1.out.fac)
      have HL2 := Aside0.mk (show g0 < wr.heap.size from World.block_lt_of_cell? _ _ x1)
      have HMM := Aside0.mk hm
      clear hy2 hy3 hx2 hx3 hcall ht hg0 hsm hxm hm hln hbit
      go_wp2_with (fail)
      go_region_held_law (fun w' => w'.cell? ⟨p, 0, none⟩ = some (.pointer (some ⟨fq, 0, none⟩)) ∧ w'.cell? ⟨p, 3, none⟩ = some (.slice (some ⟨g0, 0, none⟩) ss.length c) ∧ w'.cell? ⟨fq, 0, none⟩ = some (.func (.func 50) #[toyV a0 a1 a2 a3 a4 a5] #[]) ∧ w'.cell? ⟨g0, m, none⟩ = some (.slice Am xm.length cm)) (first | exact ⟨u0, u3, u4, u5⟩ | exact ⟨y0, y3, y4, x1⟩ | go_keep) (first
        | (go_simp; go_at_call 50
           refine (impl_toy_HashChildren.calls k a0 a1 a2 a3 a4 a5 Am cm xm A1 c1 (sds t) (sds (t + 1)) _ ?s1 HY2.out ?s3 HX2.out HCL.out).mono ?_
           (case s1 => repeat (first | exact HY3.out | (refine Kd.C_drewN ?_ _) | (refine Kd.C_drew ?_)))
           (case s3 => repeat (first | exact HX3.out | (refine Kd.C_drewN ?_ _) | (refine Kd.C_drew ?_)))
           rintro e w4 ⟨v4, rfl, hR4, hb4⟩
           have HB4 := Aside0.mk (show Below wr.heap.size wr w4 from below_step (by repeat (first | exact Below.refl _ _ | apply Below.drew | apply pw_below_drewN | apply below_drew)) hb4)
           have HR4 := Aside0.mk hR4
           have u0 := (HB4.out.cell (p := ⟨p, 0, none⟩) HL0.out).trans y0
           have u3 := (HB4.out.cell (p := ⟨p, 3, none⟩) HL0.out).trans y3
           have u4 := (HB4.out.cell (p := ⟨fq, 0, none⟩) HL1.out).trans y4
           have u5 := (HB4.out.cell (p := ⟨g0, m, none⟩) HL2.out).trans x1
           clear hR4 hb4)
        | fail)
      replace HR1 := Aside0.mk (HR1.out.below HB4.out)
      replace HQ1 := Aside0.mk (blk_below HQ1.out HB4.out)
      replace HV1 := Aside0.mk (Kd.S_below HV1.out HB4.out)
      have hsz : tb ≤ wr.heap.size := Nat.le_trans HTB.out HVs.out.size
      replace HBB := Aside0.mk (show ∀ B, B ≤ tb → B ≤ q → Below B w w4 from fun B h1 h2 => (HBB.out B h1 h2).trans (HB4.out.mono (Nat.le_trans h1 hsz)))
      replace HVs := Aside0.mk (HVs.out.trans (Vs.of HB4.out))
      obtain ⟨⟨A4, n4, c4⟩, e4⟩ := kSH_val' HR4.out
      subst e4
      have HT4 := Aside0.mk (Txt.of_R HR4.out hsz)
      clear y0 y3 y4 x1 u0 u3 u4 u5 HR4 HB4 HS1 HL0 HL1 HL2 HY2 HY3 HX2 HX3 HCL d0 d1 d2 d3 hidx hml hsz g1 g1' g2
      have hnq := fun W => neq_nil 60 q W
      have hwr : IntKind.u64.wrap ((low : Int) + (t : Int) + 1) = ((low + t + 1 : Nat) : Int) := (congrArg IntKind.u64.wrap (by omega : (low : Int) + (t : Int) + 1 = ((low + t + 1 : Nat) : Int))).trans (Go.Proofs.YtielnphmcaecdaaDoor.Num.u64in (by have := HD.out; have := HTD.out; omega))
      have hwr2 : IntKind.u64.wrap (((low + t : Nat) : Int) + 1) = ((low + t + 1 : Nat) : Int) := (congrArg IntKind.u64.wrap (by omega : ((low + t : Nat) : Int) + 1 = ((low + t + 1 : Nat) : Int))).trans (Go.Proofs.YtielnphmcaecdaaDoor.Num.u64in (by have := HD.out; have := HTD.out; omega))
      obtain ⟨rfl, ht2, ht3⟩ := HT4.out.read
      have HT2 := Aside0.mk ht2
      have HT3 := Aside0.mk ht3
      clear ht2 ht3
      dsimp only [shE]
      go_step
      try simp [Act.put]
      try go_step
      go_wp2_with (fail)
      refine (newNode.calls _ _ _).mono ?_
      rintro e w5 ⟨rfl, hb5⟩
      dsimp only
      replace HR1 := Aside0.mk (HR1.out.below hb5)
      replace HQ1 := Aside0.mk (blk_below HQ1.out hb5)
      replace HV1 := Aside0.mk (Kd.S_below HV1.out hb5)
      replace HT4 := Aside0.mk (HT4.out.pres (Pres5.below hb5))
      replace HT3 := Aside0.mk (Kd.C_below HT3.out hb5)
      have hsz : tb ≤ w4.heap.size := Nat.le_trans HTB.out HVs.out.size
      replace HBB := Aside0.mk (show ∀ B, B ≤ tb → B ≤ q → Below B w w5 from fun B h1 h2 => (HBB.out B h1 h2).trans (hb5.mono (Nat.le_trans h1 hsz)))
      replace HVs := Aside0.mk (HVs.out.trans (Vs.of hb5))
      clear hb5 hsz
      go_wp2_with (fail)
      have hsz : tb ≤ w5.heap.size := Nat.le_trans HTB.out HVs.out.size
      refine (seen60.calls _ _ A4 c4 (sds (t + 1)) tb q SV1 _ _ hsz HQ1.out HV1.out HT3.out HT2.out (by have := HVS.out; have := HTD.out; have := HD.out; rw [List.length_append]; unfold visA; rw [List.length_map, List.length_range]; omega) (HSL.out _ HTD.out)).mono ?_
      rintro e w6 ⟨rfl, SV6, hq6, hS6, hbb6, hvs6⟩
      have HQ6 := Aside0.mk hq6
      have HS6 := Aside0.mk hS6
      have HR6 := Aside0.mk (HR1.out.vs hvs6 HQ1.out)
      have HT6 := Aside0.mk (HT4.out.pres (hvs6.pres HQ1.out))
      have HVs6 := Aside0.mk (HVs.out.trans hvs6)
      have HBB6 := Aside0.mk (show ∀ B, B ≤ tb → B ≤ q → Below B w w6 from fun B h1 h2 => (HBB.out B h1 h2).trans (hbb6 B h1 h2))
      clear hq6 hS6 hbb6 hvs6 hsz HR1 HT4 HVs HBB HQ1 HV1
      dsimp only
      go_wp2
      go_roundg k1
      case measure => omega
      case rel =>
        refine ⟨t + 1, (A4, (sds (t + 1)).length, c4), SV6, rfl, ?_, ?_, rfl, ?_, ⟨by have := HI.out; omega⟩, HT6, HQ6, ⟨?_⟩, HR6, HVs6, HBB6⟩
        · rw [HIS.out t HTD.out]
        · rw [HMM.out]; congr 2; omega
        · congr 1
        · rw [visA_succ, ← List.append_assoc, HIS.out t HTD.out]
          have h := HS6.out
          rwa [show ((low : Int) + (t : Int) + 1) = ((low + t + 1 : Nat) : Int) by omega] at h
end Go.Proofs.YtielnphmcaecdaaDoor.PAll
namespace Go.Proofs.YtielnphmcaecdaaDoor.PAll
open Go.IntWalk Go.RowKit Go.Proofs.YtielnphmcaecdaaDoorW.PrintWords Go.Proofs.YtielnphmcaecdaaDoorW.PrintLast Go.Proofs.YtielnphmcaecdaaDoorW.PrintMore
set_option linter.unusedVariables false
set_option linter.unusedSimpArgs false
set_option maxHeartbeats 8000000 in
set_option maxRecDepth 100000 in
theorem appendNone.calls (k : Nat) (a0 a1 a2 a3 a4 a5 : Int) (tb p fq q : Nat) (b e en : Int) (low : Nat) (hiv : Int) (A : Option Addr) (c : Nat) (ss : List SH) (xs : List (List Int)) (As : Option Addr) (ns cs : Nat) (SV : Value) (vs : List S51) (sds : List Int) (w : World)
    (hG : Glob w) (htb : tb ≤ w.heap.size) (R : RgAt w tb p fq a0 a1 a2 a3 a4 a5 b e A c ss xs) (hs : Txt tb w (As, ns, cs) sds) (hq : w.heap[q]? = some (.cells #[SV] 36 (0, 0))) (hS : Kd.S k51 51 w tb (fun _ => True) SV vs)
    (hmp : compact_getMergePath.f k b e en = some ((low : Int), hiv)) (hhi : hiv < (low : Int)) (hD64 : low ≤ 64)
    (hones : bits_OnesCount64.f (Go.bits .and .u64 (e / 2 ^ min low 64) 0) = some 0)
    (hn : xs.length < 1099511627776) :
    Calls Tryd.prog 90 #[.pointer (some ⟨p, 0, none⟩), .int .u64 en, .slice As ns cs, .slice none 0 0, .func (.func 60) #[] #[.pointer (some ⟨q, 0, none⟩)]] w fun ex w' => ex = .returned .nilIface ∧ Appd w w' tb p fq q a0 a1 a2 a3 a4 a5 b en A c ss.length (xs ++ [sds]) vs := by
  have HG := Aside0.mk hG
  have HTB := Aside0.mk htb
  have HR := Aside0.mk R
  have HS := Aside0.mk hs
  have HQ := Aside0.mk hq
  have HV := Aside0.mk hS
  have HMP := Aside0.mk hmp
  have HON := Aside0.mk hones
  have g1 : decide (hiv < (low : Int)) = true := decide_eq_true hhi
  have hln := R.len
  have HHI := Aside0.mk hhi
  have HD := Aside0.mk hD64
  have HN := Aside0.mk hn
  have y0 : w.cell? ⟨p, 0, none⟩ = some (.pointer (some ⟨fq, 0, none⟩)) := blk_cell R.cell 0
  have y1 : w.cell? ⟨p, 1, none⟩ = some (.int .u64 b) := blk_cell R.cell 1
  have y2 : w.cell? ⟨p, 2, none⟩ = some (.int .u64 e) := blk_cell R.cell 2
  have y3 : w.cell? ⟨p, 3, none⟩ = some (.slice A ss.length c) := blk_cell R.cell 3
  clear hones hln hG htb R hs hq hS hmp hhi hD64 hn
  go_enter Tryd.func90, Tryd.ntmps90
  go_wp2_with (fail)
  go_region_held_law (fun w' => w'.cell? ⟨p, 1, none⟩ = some (.int .u64 b) ∧ w'.cell? ⟨p, 2, none⟩ = some (.int .u64 e)) (first | exact ⟨y1, y2⟩ | go_keep) (first
    | (go_simp; go_at_call 111
       refine (compact_getMergePath.calls k b e en low hiv _ (HG.out.below (by repeat (first | exact Below.refl _ _ | apply Below.drew | apply below_drew))) HMP.out).mono ?_
       rintro ex wq ⟨rfl, hd⟩
       obtain ⟨⟨nd, rfl⟩⟩ := hd)
    | fail)
  go_wp2_with (fail)
  refine (bits_OnesCount64.calls _ 0 _ HON.out).mono ?_
  rintro ex wq ⟨rfl, hd⟩
  obtain ⟨⟨nd2, rfl⟩⟩ := hd
  dsimp only
  go_wp2_with (fail)
  have hbd : Below w.heap.size w (w.drewN (1 + nd + nd2)) := pw_below_drewN (Below.refl _ _) _
  have HR1 := Aside0.mk (HR.out.below hbd)
  have HS1 := Aside0.mk (HS.out.pres (Pres5.below hbd))
  have HQ1 := Aside0.mk (blk_below HQ.out hbd)
  have HV1 := Aside0.mk (Kd.S_below HV.out hbd)
  have HVs := Aside0.mk (Vs.of (q := q) hbd)
  have HBB := Aside0.mk (show ∀ B, B ≤ tb → B ≤ q → Below B w (w.drewN (1 + nd + nd2)) from fun B h _ => hbd.mono (Nat.le_trans h HTB.out))
  generalize w.drewN (1 + nd + nd2) = W at hbd HR1 HS1 HQ1 HV1 HVs HBB ⊢
  clear y0 y1 y2 y3 HS HQ HV HMP HON g1 hbd
  go_loopg [2, 13, 18, 19, 20] 0 (fun kq v2 v13 v18 v19 v20 w' => ∃ (SV' : Value), v2 = .slice As ns cs ∧ v18 = .int .i64 (ss.length : Int) ∧ v19 = .int .i64 0 ∧ v20 = .int .u64 (low : Int) ∧ Aside0 (0 = kq) ∧ Aside0 (Txt tb w' (As, ns, cs) sds) ∧ Aside0 (w'.heap[q]? = some (.cells #[SV'] 36 (0, 0))) ∧ Aside0 (Kd.S k51 51 w' tb (fun _ => True) SV' vs) ∧ Aside0 (RgAt w' tb p fq a0 a1 a2 a3 a4 a5 b e A c ss xs) ∧ Aside0 (Vs q w w') ∧ Aside0 (∀ B, B ≤ tb → B ≤ q → Below B w w'))
  case atStart => exact ⟨SV, rfl, rfl, rfl, rfl, ⟨rfl⟩, HS1, HQ1, HV1, HR1, HVs, HBB⟩
  case round =>
    clear HR1 HS1 HQ1 HV1 HVs HBB
    obtain ⟨SV1, rfl, rfl, rfl, rfl, HI, HS1, HQ1, HV1, HR1, HVs, HBB⟩ := hrel
    cases gk with
    | zero =>
      have g1 : decide ((low : Int) < (low : Int)) = false := decide_eq_false (by omega)
      have hln : ss.length = xs.length := HR1.out.len
      obtain ⟨i0, hi0, _, hsz, _⟩ := info_parts info27
      have hRR := Kd.R_reads' HR1.out.row
      have hcut := cut_to (P := Tryd.prog) 25 27 .i64 Tryd.underlying25 hi0 A ss.length c (ss.length : Int) (by omega) (by omega) hRR.2.1
      rw [Int.toNat_natCast] at hcut
      have hcut2 := cut_from (P := Tryd.prog) 25 27 .i64 Tryd.underlying25 hi0 1 hsz none 0 0 (0 : Int) (by omega) (by omega)
      have hRT := Kd.R_take (m := ss.length) HR1.out.row (by omega)
      have y3 : wr.cell? ⟨p, 3, none⟩ = some (.slice A ss.length c) := blk_cell HR1.out.cell 3
      have z3 : ∀ o, (wr.alloc o).cell? ⟨p, 3, none⟩ = some (.slice A ss.length c) := fun o => (World.cell?_alloc_lt _ _ _ (blk_lt HR1.out.cell)).trans y3
      have HRT := Aside0.mk hRT
      have HSZ := Aside0.mk (show tb ≤ wr.heap.size from Nat.le_trans HTB.out HVs.out.size)
      have HLN := Aside0.mk hln
      clear hRR hRT hi0 hsz hln
      go_wp2_with (fail)
      go_region_law (first
        | (refine Kd.R_append_step kSH (w0 := wr) (W := wr.drew) tb ?hw (.tmp 137) (.tmp 139) 25 27 (.slice none 0 0) 24 rfl Tryd.underlying25 info27 rfl (by decide) (by omega) (.slice A (ss.length) c) (ss.take (ss.length - 0)) (As, ns, cs) [.slice As ns cs] (fun _ => True) (fun _ => False) rfl rfl ?aP (fun _ h => h.elim) ?aF ?aO ?aB ?aS ?aL ?_
           (case hw => simp [Region.wanted])
           (case aP => rfl)
           (case aF => exact fun _ _ => trivial)
           (case aO => repeat (first | exact HRT.out | (refine Kd.R_alloc ?_ _) | (refine Kd.R_drewN ?_ _) | (refine Kd.R_drew ?_)))
           (case aB => repeat (first | exact Below.refl _ _ | apply Below.drew | apply below_drew))
           (case aS => exact Nat.le_trans HSZ.out (below_size (show Below wr.heap.size wr _ by repeat (first | exact Below.refl _ _ | apply Below.drew | apply below_drew))))
           (case aL => have := HN.out; have := HLN.out; rw [List.length_take]; omega)
           intro v1 w1 hR1 hB1 hg1 hat1
           obtain ⟨A5, n5, c5, rfl, hn5⟩ : ∃ A n c, v1 = .slice A n c ∧ n = (ss.take (ss.length - 0) ++ [(As, ns, cs)]).length := by
             obtain ⟨A, c, h⟩ := Kd.R_slice hR1
             exact ⟨A, _, c, h, rfl⟩
           have HN5 := Aside0.mk hn5
           have HR5 := Aside0.mk hR1
           have HB5 := Aside0.mk hB1
           have HG5 := Aside0.mk (grown_from (show Below wr.heap.size wr wr.drew from below_drew (Below.refl _ _)) hg1)
           have HAT5 := Aside0.mk (hat_from (show Below wr.heap.size wr wr.drew from below_drew (Below.refl _ _)) hat1)
           clear hR1 hB1 hg1 hat1 hn5)
        | (refine Kd.R_append_rows_step kSH (w0 := wr) (W := w1) tb ?hw (.tmp 140) (.tmp 143) 25 27 (.slice none 0 0) 24 rfl Tryd.underlying25 info27 rfl (by decide) (by omega) (.slice A5 n5 c5) (ss.take (ss.length - 0) ++ [(As, ns, cs)]) [] none 0 0 (fun _ => True) (fun _ => False) rfl rfl ?aO (Kd.C_nil kSH w1) (fun _ _ h => h) (fun _ h => h.elim) ?aF ?aB ?aS ?aL ?_
           (case hw => simp [Region.wanted])
           (case aO => exact HR5.out)
           (case aF => exact fun _ _ => trivial)
           (case aB => exact HB5.out)
           (case aS => exact Nat.le_trans HSZ.out (HG5.out.size))
           (case aL => have := HN.out; have := HLN.out; simp only [List.length_append, List.length_take, List.length_singleton]; omega)
           intro v2 w2 hR2 hB2 hg2 hat2
           rw [List.append_nil] at hR2
           obtain ⟨A6, n6, c6, rfl, hn6⟩ : ∃ A n c, v2 = .slice A n c ∧ n = (ss.take (ss.length - 0) ++ [(As, ns, cs)]).length := by
             obtain ⟨A, c, h⟩ := Kd.R_slice hR2
             exact ⟨A, _, c, h, rfl⟩
           have HN6 := Aside0.mk hn6
           have HR6 := Aside0.mk hR2
           have HB6 := Aside0.mk hB2
           have HG6 := Aside0.mk (grown_two HG5.out HAT5.out hg2)
           have HAT6 := Aside0.mk (hat_two HG5.out.size HAT5.out hat2)
           have hpc := blk_grown HR1.out.cell HG6.out (fun e => by obtain ⟨d, hd⟩ := Kd.R_typed HR1.out.row p e.symm; exact ty_ne HR1.out.cell hd (by decide) rfl)
           have f3 : w2.frozen? ⟨p, 3, none⟩ = false := blk_frozen hpc 3
           have f2 : w2.frozen? ⟨p, 2, none⟩ = false := blk_frozen hpc 2
           have y3_ : w2.cell? ⟨p, 3, none⟩ = some (.slice A ss.length c) := blk_cell hpc 3
           have y2_ : w2.cell? ⟨p, 2, none⟩ = some (.int .u64 e) := blk_cell hpc 2
           clear hR2 hB2 hg2 hat2 hpc hn6)
        | fail)
      all_goals
        go_wp2_with (fail)
        go_ret
        have hend := app_end (D := 0) (en := en) HN6.out HTB.out HR1.out HS1.out HQ1.out HV1.out HVs.out HBB.out HR6.out HG6.out HAT6.out HB6.out
        rw [Nat.sub_zero, List.take_length] at hend
        exact ⟨rfl, hend⟩
    | succ k1 => exact absurd HI.out (by omega)
end Go.Proofs.YtielnphmcaecdaaDoor.PAll
namespace Go.Proofs.YtielnphmcaecdaaDoor.PAll
open Go.RowKit Go.Proofs.YtielnphmcaecdaaDoor.Mth Go.Proofs.YtielnphmcaecdaaDoorW.PrintWords Go.Proofs.YtielnphmcaecdaaDoorW.PrintLast Go.Proofs.YtielnphmcaecdaaDoorW.PrintMore
set_option linter.unusedVariables false
def foldR_ (F : List Int → List Int → Option (List Int)) : List (List Int) → Option (List Int)
  | [] => none
  | [x] => some x
  | x :: y :: l => (foldR_ F (y :: l)).bind fun t => F x t
theorem foldR_cons {F : List Int → List Int → Option (List Int)} {x : List Int} {l : List (List Int)} (h : l ≠ []) : foldR_ F (x :: l) = (foldR_ F l).bind fun t => F x t := by
  cases l with
  | nil => exact absurd rfl h
  | cons y l => rfl
end Go.Proofs.YtielnphmcaecdaaDoor.PAll
namespace Go.Proofs.YtielnphmcaecdaaDoor.PAll
open Go.IntWalk Go.RowKit Go.Proofs.YtielnphmcaecdaaDoorW.PrintWords Go.Proofs.YtielnphmcaecdaaDoorW.PrintLast Go.Proofs.YtielnphmcaecdaaDoorW.PrintMore
set_option linter.unusedVariables false
theorem heads_C {w : World} {base B : Nat} {A : Option Addr} {n c : Nat} {ok : Nat → Prop} {hs : List SH} {out : List (List Int)} (h : kSH.R 27 w base ok (.slice A n c) hs) (hl : out.length ≤ hs.length)
    (ht : ∀ (j : Nat) (s : SH) (b : List Int), hs[j]? = some s → out[j]? = some b → Txt B w s b) : Kd.C (Kd.slice 5 (Kd.int .u8)) w A out.length out := by
  obtain ⟨h1, h2, h3⟩ := Kd.R_reads' h
  refine ⟨rfl, Nat.le_trans hl h3.2.1, fun hp => ?_⟩
  obtain ⟨ad, e, hc⟩ := h3.2.2 (by omega)
  refine ⟨ad, e, fun j b hj => ?_⟩
  have hjl : j < hs.length := by have := (List.getElem?_eq_some_iff.1 hj).1; omega
  obtain ⟨⟨As, ns, c1⟩, hsj⟩ : ∃ s, hs[j]? = some s := ⟨_, List.getElem?_eq_getElem hjl⟩
  obtain ⟨cs, k1, k2, k3⟩ := hc j _ hsj
  obtain ⟨t1, t2, t3⟩ := (ht j _ b hsj hj).read
  refine ⟨cs, k1, ⟨As, c1, ?_, t2, t3⟩, k3⟩
  rw [← t1]; exact k2
theorem nxt_ {i : Nat} (h : i < 9223372036854775807) : wrap64 ((i : Int) + 1) = ((i + 1 : Nat) : Int) := by unfold wrap64; omega
end Go.Proofs.YtielnphmcaecdaaDoor.PAll
namespace Go.Proofs.YtielnphmcaecdaaDoor.PAll
open Go.IntWalk Go.RowKit Go.Proofs.YtielnphmcaecdaaDoorW.PrintWords Go.Proofs.YtielnphmcaecdaaDoorW.PrintLast Go.Proofs.YtielnphmcaecdaaDoorW.PrintMore
set_option linter.unusedVariables false
set_option linter.unusedSimpArgs false
theorem Glob.far {w w' : World} (h : Glob w) (hb : Below 1 w w') : Glob w' := fun j hj => (hb.cell (p := ⟨0, j, none⟩) (Nat.lt_succ_self 0)).trans (h j hj)
theorem Appd.after {w w1 w' : World} {tb p fq q : Nat} {a0 a1 a2 a3 a4 a5 b en : Int} {A : Option Addr} {c n : Nat} {xs : List (List Int)} {vs : List S51} (hv : Vs q w w1) (hb : ∀ B, B ≤ tb → B ≤ q → Below B w w1) (h : Appd w1 w' tb p fq q a0 a1 a2 a3 a4 a5 b en A c n xs vs) : Appd w w' tb p fq q a0 a1 a2 a3 a4 a5 b en A c n xs vs := by
  obtain ⟨A', c', ss', SV', R, hq, hS, F, hB, hat⟩ := h
  refine ⟨A', c', ss', SV', R, hq, hS, ⟨F.os.trans hv.os, F.tape.trans hv.tape, F.output.trans hv.output, Nat.le_trans hv.size F.size, fun k hk h1 h2 h3 h4 => ?_⟩, fun B h1 h2 h3 => (hb B h1 h2).trans (hB B h1 h2 h3), ?_⟩
  · have e := hv.block k hk h2 h4
    exact (F.block k (Nat.lt_of_lt_of_le hk hv.size) h1 h2 h3 (fun c => by rw [e]; exact h4 c)).trans e
  · rcases hat with h | ⟨g, h, hle⟩
    · exact .inl h
    · exact .inr ⟨g, h, Nat.le_trans hv.size hle⟩
set_option maxHeartbeats 8000000 in
set_option maxRecDepth 100000 in
theorem rangeAppend.calls (tb p fq q : Nat) (a0 a1 a2 a3 a4 a5 b e en : Int) (A : Option Addr) (c : Nat) (ss : List SH) (xs xs2 : List (List Int)) (As : Option Addr) (ns cs : Nat) (sd : List Int) (SV : Value) (vs V : List S51) (w : World)
    (h1 : 1 ≤ tb) (h1q : 1 ≤ q) (hG : Glob w) (htb : tb ≤ w.heap.size) (R : RgAt w tb p fq a0 a1 a2 a3 a4 a5 b e A c ss xs) (hs : Txt tb w (As, ns, cs) sd) (hq : w.heap[q]? = some (.cells #[SV] 36 (0, 0))) (hS : Kd.S k51 51 w tb (fun _ => True) SV vs) (hvs : vs.length < 1099511627776) (hsl : sd.length ≤ 140737488355328)
    (HA : ∀ (W : World) (SV' : Value), Glob W → tb ≤ W.heap.size → RgAt W tb p fq a0 a1 a2 a3 a4 a5 b e A c ss xs → Txt tb W (As, ns, cs) sd → W.heap[q]? = some (.cells #[SV'] 36 (0, 0)) → Kd.S k51 51 W tb (fun _ => True) SV' (vs ++ [⟨⟨0, e⟩, sd⟩]) →
      Calls Tryd.prog 90 #[.pointer (some ⟨p, 0, none⟩), .int .u64 (IntKind.u64.wrap (e + 1)), .slice As ns cs, .slice none 0 0, .func (.func 60) #[] #[.pointer (some ⟨q, 0, none⟩)]] W fun ex w' => ex = .returned .nilIface ∧ Appd W w' tb p fq q a0 a1 a2 a3 a4 a5 b en A c ss.length xs2 (vs ++ [⟨⟨0, e⟩, sd⟩] ++ V)) :
    Calls Tryd.prog 59 #[.pointer (some ⟨p, 0, none⟩), .slice As ns cs, .func (.func 60) #[] #[.pointer (some ⟨q, 0, none⟩)]] w fun ex w' => ex = .returned .nilIface ∧ Appd w w' tb p fq q a0 a1 a2 a3 a4 a5 b en A c ss.length xs2 (vs ++ [⟨⟨0, e⟩, sd⟩] ++ V) := by
  have HG := Aside0.mk hG
  have H1 := Aside0.mk h1
  have H1Q := Aside0.mk h1q
  have HTB := Aside0.mk htb
  have HR := Aside0.mk R
  have HQ := Aside0.mk hq
  have HV := Aside0.mk hS
  have HVS := Aside0.mk hvs
  have HSL := Aside0.mk hsl
  have HAA := Aside0.mk HA
  obtain ⟨rfl, h2, h3⟩ := hs.read
  have HS := Aside0.mk hs
  have HT2 := Aside0.mk h2
  have HT3 := Aside0.mk h3
  have y2 : w.cell? ⟨p, 2, none⟩ = some (.int .u64 e) := blk_cell R.cell 2
  have hnq := fun W => neq_nil 60 q W
  clear h1 h1q hG htb R hq hS hvs hsl HA h2 h3 hs
  go_enter Tryd.func59, Tryd.ntmps59
  go_wp2_with (fail)
  refine (newNode.calls _ _ _).mono ?_
  rintro ex w5 ⟨rfl, hb5⟩
  dsimp only
  have HR1 := Aside0.mk (HR.out.below hb5)
  have HQ1 := Aside0.mk (blk_below HQ.out hb5)
  have HV1 := Aside0.mk (Kd.S_below HV.out hb5)
  have HT1 := Aside0.mk (Kd.C_below HT3.out hb5)
  have HS1 := Aside0.mk (HS.out.pres (Pres5.below hb5))
  have hsz : tb ≤ w5.heap.size := Nat.le_trans HTB.out hb5.size
  have HBB := Aside0.mk (show ∀ B, B ≤ tb → B ≤ q → Below B w w5 from fun B h1 h2 => hb5.mono (Nat.le_trans h1 HTB.out))
  have HVs := Aside0.mk (Vs.of (q := q) hb5)
  clear hb5 y2
  go_wp2_with (fail)
  refine (seen60.calls _ _ As cs sd tb q SV vs _ hsz HQ1.out HV1.out HT1.out HT2.out HVS.out HSL.out).mono ?_
  rintro ex w6 ⟨rfl, SV6, hq6, hS6, hbb6, hvs6⟩
  have HQ6 := Aside0.mk hq6
  have HS6 := Aside0.mk hS6
  have HR6 := Aside0.mk (HR1.out.vs hvs6 HQ1.out)
  have HT6 := Aside0.mk (HS1.out.pres (hvs6.pres HQ1.out))
  have HVs6 := Aside0.mk (HVs.out.trans hvs6)
  have HBB6 := Aside0.mk (show ∀ B, B ≤ tb → B ≤ q → Below B w w6 from fun B h1 h2 => (HBB.out B h1 h2).trans (hbb6 B h1 h2))
  clear hq6 hS6 hbb6 hvs6 hsz HR1 HT1 HVs HBB HQ1 HV1 HS1
  dsimp only
  have y2 : w6.cell? ⟨p, 2, none⟩ = some (.int .u64 e) := blk_cell HR6.out.cell 2
  go_wp2_with (fail)
  refine (HAA.out w6 SV6 (HG.out.far (HBB6.out 1 H1.out H1Q.out)) (Nat.le_trans HTB.out HVs6.out.size) HR6.out HT6.out HQ6.out HS6.out).mono ?_
  rintro ex w7 ⟨rfl, hA⟩
  have HA7 := Aside0.mk (hA.after HVs6.out HBB6.out)
  clear hA
  dsimp only
  go_wp2
  go_ret
  exact ⟨rfl, HA7.out⟩
set_option maxHeartbeats 8000000 in
set_option maxRecDepth 100000 in
theorem newRange.calls (k fq : Nat) (b e : Int) (A : Option Addr) (n c : Nat) (w : World) (hG : Glob w) (hbe : b ≤ e) (hsz : compact_RangeSize.f k b e = some (n : Int)) :
    Calls Tryd.prog 51 #[.pointer (some ⟨fq, 0, none⟩), .int .u64 b, .int .u64 e, .slice A n c] w fun ex w' => ∃ m, ex = .returned (.tuple #[.pointer (some ⟨w.heap.size, 0, none⟩), .nilIface]) ∧ w' = (w.drewN m).alloc (Obj.cells #[.pointer (some ⟨fq, 0, none⟩), .int .u64 b, .int .u64 e, .slice A n c] 148) := by
  have b0 : decide (e < b) = false := decide_eq_false (by omega)
  have b1 : ((n : Int) != (n : Int)) = false := by simp
  go_enter Tryd.func51, Tryd.ntmps51
  go_wp2_with (fail)
  refine (compact_RangeSize.calls k b e n _ hsz).mono ?_
  rintro ex w1 ⟨rfl, hd⟩
  obtain ⟨⟨nd, rfl⟩⟩ := hd
  dsimp only
  go_wp2
  go_ret2
  exact ⟨nd, rfl, rfl⟩
theorem rangeBegin.calls (p fq : Nat) (b e : Int) (V : Value) (w : World) (h : w.heap[p]? = some (.cells #[.pointer (some ⟨fq, 0, none⟩), .int .u64 b, .int .u64 e, V] 148 (0, 0))) : Calls Tryd.prog 91 #[.pointer (some ⟨p, 0, none⟩)] w fun ex w' => ex = .returned (.int .u64 b) ∧ w' = w := by
  have y1 : w.cell? ⟨p, 1, none⟩ = some (.int .u64 b) := blk_cell h 1
  go_enter Tryd.func91, Tryd.ntmps91
  go_wp2
  go_ret
  exact ⟨rfl, rfl⟩
theorem rangeEnd.calls (p fq : Nat) (b e : Int) (V : Value) (w : World) (h : w.heap[p]? = some (.cells #[.pointer (some ⟨fq, 0, none⟩), .int .u64 b, .int .u64 e, V] 148 (0, 0))) : Calls Tryd.prog 92 #[.pointer (some ⟨p, 0, none⟩)] w fun ex w' => ex = .returned (.int .u64 e) ∧ w' = w := by
  have y1 : w.cell? ⟨p, 2, none⟩ = some (.int .u64 e) := blk_cell h 2
  go_enter Tryd.func92, Tryd.ntmps92
  go_wp2
  go_ret
  exact ⟨rfl, rfl⟩
theorem rangeHashes.calls (p fq : Nat) (b e : Int) (A : Option Addr) (n c : Nat) (w : World) (h : w.heap[p]? = some (.cells #[.pointer (some ⟨fq, 0, none⟩), .int .u64 b, .int .u64 e, .slice A n c] 148 (0, 0))) : Calls Tryd.prog 93 #[.pointer (some ⟨p, 0, none⟩)] w fun ex w' => ex = .returned (.slice A n c) ∧ w' = w := by
  have y1 : w.cell? ⟨p, 3, none⟩ = some (.slice A n c) := blk_cell h 3
  go_enter Tryd.func93, Tryd.ntmps93
  go_wp2
  go_ret
  exact ⟨rfl, rfl⟩
set_option maxHeartbeats 8000000 in
set_option maxRecDepth 100000 in
theorem fromRange.calls (k tb p fq : Nat) (a0 a1 a2 a3 a4 a5 b e : Int) (A : Option Addr) (c : Nat) (ss : List SH) (xs r : List (List Int)) (w : World) (R : RgAt w tb p fq a0 a1 a2 a3 a4 a5 b e A c ss xs) (hx : impl_texts.f k xs = some r) :
    Calls Tryd.prog 55 #[.pointer (some ⟨p, 0, none⟩)] w fun ex w' => ∃ v, ex = .returned (.agg #[.int .u64 b, .int .u64 e, v]) ∧ Kd.S (Kd.slice 5 (Kd.int .u8)) 27 w' w.heap.size (fun _ => True) v r ∧ Below w.heap.size w w' := by
  have HR := Aside0.mk R
  have HX := Aside0.mk hx
  clear R hx
  go_enter Tryd.func55, Tryd.ntmps55
  go_wp2_with (fail)
  have BK := Aside0.mk (blk_new w (Obj.cells #[Value.int IntKind.u64 0, Value.int IntKind.u64 0, Value.slice none 0 0] 34))
  have HB := Aside0.mk (below_alloc (Below.refl w.heap.size w) (Obj.cells #[Value.int IntKind.u64 0, Value.int IntKind.u64 0, Value.slice none 0 0] 34))
  generalize w.alloc (Obj.cells #[Value.int IntKind.u64 0, Value.int IntKind.u64 0, Value.slice none 0 0] 34) = W at BK HB ⊢
  replace HR := Aside0.mk (HR.out.below HB.out)
  refine (rangeBegin.calls p fq b e _ W HR.out.cell).mono ?_
  rintro ex w' ⟨rfl, rfl⟩
  dsimp only
  go_wp2_with (fail)
  refine (rangeEnd.calls p fq b e _ w' HR.out.cell).mono ?_
  rintro ex w' ⟨rfl, rfl⟩
  dsimp only
  go_wp2_with (fail)
  refine (rangeHashes.calls p fq b e _ _ _ w' HR.out.cell).mono ?_
  rintro ex w' ⟨rfl, rfl⟩
  dsimp only
  have hln := HR.out.len
  have hRC := heads_C HR.out.row (out := xs) (by omega) (fun j s b h1 h2 => HR.out.txt j s b h1 h2)
  have hle := (Kd.R_reads' HR.out.row).2.1
  rw [hln] at hle
  have HRC := Aside0.mk hRC
  have HLE := Aside0.mk hle
  obtain ⟨n, hn⟩ : ∃ n, ss.length = n := ⟨_, rfl⟩
  rw [hn]
  obtain rfl : n = xs.length := by omega
  clear hRC hle hln
  go_wp2_with (fail)
  refine (impl_texts.calls k A c xs r _ HRC.out HLE.out HX.out).mono ?_
  rintro ex w3 ⟨v3, rfl, hS3, hb3⟩
  have HS3 := Aside0.mk (Kd.S_lower hS3 HB.out.size)
  replace BK := Aside0.mk (blk_below BK.out hb3)
  replace HB := Aside0.mk (below_step HB.out hb3)
  clear hS3 hb3
  dsimp only
  obtain ⟨A3, c3, rfl⟩ := Kd.S_slice HS3.out
  have s0 : w3.cell? ⟨w.heap.size, 0, none⟩ = some (.int .u64 0) := blk_cell BK.out 0
  have s1 : w3.cell? ⟨w.heap.size, 1, none⟩ = some (.int .u64 0) := blk_cell BK.out 1
  have s2 : w3.cell? ⟨w.heap.size, 2, none⟩ = some (.slice none 0 0) := blk_cell BK.out 2
  have z0 := blk_frozen BK.out 0
  have z1 := blk_frozen BK.out 1
  have z2 := blk_frozen BK.out 2
  go_wp2
  have k1 := blk_set BK.out 0 (.int .u64 b)
  have k2 := blk_set k1 1 (.int .u64 e)
  have k3 := blk_set k2 2 (.slice A3 r.length c3)
  refine bodyPost_ret (results_cell_row rfl _ _ w.heap.size 34 #[.int .u64 b, .int .u64 e, .slice A3 r.length c3] (0, 0) _ rfl k3 Tryd.underlying34 rfl (by kernel_rfl)) rfl ?_
  exact ⟨_, rfl, Kd.S_set (Kd.S_set (Kd.S_set HS3.out BK.out (by decide) _ _) k1 (by decide) _ _) k2 (by decide) _ _, ((HB.out.setCell (p := ⟨w.heap.size, 0, none⟩) (Nat.le_refl _) _).setCell (p := ⟨w.heap.size, 1, none⟩) (Nat.le_refl _) _).setCell (p := ⟨w.heap.size, 2, none⟩) (Nat.le_refl _) _⟩
end Go.Proofs.YtielnphmcaecdaaDoor.PAll
namespace Go.Proofs.YtielnphmcaecdaaDoor.PAll
open Go.RowKit Go.Proofs.YtielnphmcaecdaaDoorW.PrintWords Go.Proofs.YtielnphmcaecdaaDoorW.PrintLast Go.Proofs.YtielnphmcaecdaaDoorW.PrintMore
set_option linter.unusedVariables false
set_option linter.unusedSimpArgs false
set_option maxHeartbeats 8000000 in
set_option maxRecDepth 100000 in
theorem seen62.calls (lv ix : Int) (A : Option Addr) (c : Nat) (b : List Int) (tb q : Nat) (SV : Value) (vs : List S51) (w : World) (hb : tb ≤ w.heap.size) (hq : w.heap[q]? = some (.cells #[SV] 36 (0, 0))) (hS : Kd.S k51 51 w tb (fun _ => True) SV vs)
    (hC : Kd.C (Kd.int .u8) w A b.length b) (hc : b.length ≤ c) (hl : vs.length < 1099511627776) (hbl : b.length ≤ 140737488355328) :
    Calls Tryd.prog 62 #[.agg #[.int .u64 lv, .int .u64 ix], .slice A b.length c, .pointer (some ⟨q, 0, none⟩)] w fun e w' => e = .returned (.tuple #[]) ∧ ∃ SV', w'.heap[q]? = some (.cells #[SV'] 36 (0, 0)) ∧ Kd.S k51 51 w' tb (fun _ => True) SV' (vs ++ [⟨⟨lv, ix⟩, b⟩]) ∧ (∀ B, B ≤ tb → B ≤ q → Below B w w') ∧ Vs q w w' := by
  have HB := Aside0.mk (below_alloc (Below.refl w.heap.size w) (Obj.cells #[Value.int IntKind.u64 lv, Value.int IntKind.u64 ix] 99))
  have hbk := blk_new w (Obj.cells #[Value.int IntKind.u64 lv, Value.int IntKind.u64 ix] 99)
  have HQ := Aside0.mk hq
  have HS := Aside0.mk hS
  have HC := Aside0.mk hC
  have HCC := Aside0.mk hc
  have HL := Aside0.mk hl
  have HBL := Aside0.mk hbl
  have HTB := Aside0.mk hb
  have hqlt := blk_lt hq
  clear hq hS hC hc hl hbl hb
  go_enter Tryd.func62, Tryd.ntmps62
  go_wp2_with (fail)
  generalize w.alloc (Obj.cells #[Value.int IntKind.u64 lv, Value.int IntKind.u64 ix] 99) = W0 at HB hbk ⊢
  have HQ0 := Aside0.mk (blk_below HQ.out HB.out)
  have HS0 := Aside0.mk (Kd.S_mono (ok' := fun k => k < W0.heap.size) (Kd.S_bound (Kd.S_below HS.out HB.out)) (fun k hk => hk.2.2.1))
  have HC0 := Aside0.mk (Kd.C_below HC.out HB.out)
  have HBK := Aside0.mk hbk
  have y0 : W0.cell? ⟨q, 0, none⟩ = some SV := blk_cell HQ0.out 0
  have y1 : W0.cell? ⟨w.heap.size, 0, none⟩ = some (.int .u64 lv) := blk_cell hbk 0
  have y2 : W0.cell? ⟨w.heap.size, 1, none⟩ = some (.int .u64 ix) := blk_cell hbk 1
  have HQL := Aside0.mk (show q < W0.heap.size from Nat.lt_of_lt_of_le hqlt HB.out.size)
  have HWL := Aside0.mk (show w.heap.size < W0.heap.size from blk_lt hbk)
  have HBn := Aside0.mk (Below.refl W0.heap.size W0)
  have hqw : q ≠ w.heap.size := Nat.ne_of_lt hqlt
  have hqw' : w.heap.size ≠ q := Nat.ne_of_gt hqlt
  clear hbk hqlt
  have z0 : ∀ o, (W0.alloc o).cell? ⟨q, 0, none⟩ = some SV := fun o => (World.cell?_alloc_lt _ _ _ HQL.out).trans y0
  have z1 : ∀ o, (W0.alloc o).cell? ⟨w.heap.size, 0, none⟩ = some (.int .u64 lv) := fun o => (World.cell?_alloc_lt _ _ _ HWL.out).trans y1
  have z2 : ∀ o, (W0.alloc o).cell? ⟨w.heap.size, 1, none⟩ = some (.int .u64 ix) := fun o => (World.cell?_alloc_lt _ _ _ HWL.out).trans y2
  go_region_law (first
    | (go_simp
       go_at_call 54
       refine (impl_fromNode.calls lv ix lv ix _ rfl).mono ?_
       rintro e wq ⟨rfl, hB⟩
       have hB1 : Below W0.heap.size W0 wq := below_step (by repeat (first | exact HBn.out | exact Below.refl _ _ | (refine below_alloc ?_ _) | apply Below.drew | apply pw_below_drewN | apply below_drew)) hB
       try have H8 := Aside0.mk (Kd.R_below (Kd.R_drew (lit_R _ (below_size (by repeat (first | exact HBn.out | exact Below.refl _ _ | (refine below_alloc ?_ _) | apply Below.drew | apply pw_below_drewN | apply below_drew))))) hB)
       try have H8 := Aside0.mk (Kd.R_below (lit_R _ (below_size (by repeat (first | exact HBn.out | exact Below.refl _ _ | (refine below_alloc ?_ _) | apply Below.drew | apply pw_below_drewN | apply below_drew)))) hB)
       try have H10 := Aside0.mk (Kd.R_below H10.out (below_step (by repeat (first | exact Below.refl _ _ | apply Below.drew | apply below_drew)) hB))
       have HBn := Aside0.mk hB1
       have v0_ := (HBn.out.cell (p := ⟨q, 0, none⟩) HQL.out).trans y0
       have z0_ : ∀ o, (wq.alloc o).cell? ⟨q, 0, none⟩ = some SV := fun o => (World.cell?_alloc_lt _ _ _ (Nat.lt_of_lt_of_le HQL.out HBn.out.size)).trans v0_
       clear hB hB1)
    | (refine Kd.R_append_rows_step (Kd.int .u8) (w0 := W0) W0.heap.size ?hw (.tmp 8) (.tmp 9) 27 5 (.int .u8 0) 1 rfl Tryd.underlying27 info5 rfl (by decide) (by omega) _ [] b A b.length c (fun k => W0.heap.size ≤ k) (fun _ => False) rfl rfl ?aO ?aR (fun _ _ h => h) (fun _ h => h.elim) ?aF ?hB ?hbase ?aL ?_
       (case hw => simp [Region.wanted])
       (case aO => repeat (first | exact H8.out | exact lit_R _ (below_size (by repeat (first | exact HBn.out | exact Below.refl _ _ | (refine below_alloc ?_ _) | apply Below.drew | apply pw_below_drewN | apply below_drew))) | (refine Kd.R_drewN ?_ _) | (refine Kd.R_drew ?_)))
       (case aR => exact Kd.C_below HC0.out (by repeat (first | exact HBn.out | exact Below.refl _ _ | (refine below_alloc ?_ _) | apply Below.drew | apply pw_below_drewN | apply below_drew)))
       (case aF => exact fun k hk => Nat.le_trans (below_size (by repeat (first | exact HBn.out | exact Below.refl _ _ | (refine below_alloc ?_ _) | apply Below.drew | apply pw_below_drewN | apply below_drew))) hk)
       (case hB => exact (by repeat (first | exact HBn.out | exact Below.refl _ _ | (refine below_alloc ?_ _) | apply Below.drew | apply pw_below_drewN | apply below_drew)))
       (case hbase => exact below_size (by repeat (first | exact HBn.out | exact Below.refl _ _ | (refine below_alloc ?_ _) | apply Below.drew | apply pw_below_drewN | apply below_drew)))
       (case aL => have := HBL.out; simp; omega)
       intro v10 wq ho hB hg hat
       have H10 := Aside0.mk (show Kd.R (Kd.int .u8) 5 wq W0.heap.size (fun k => W0.heap.size ≤ k) v10 b from ho)
       obtain ⟨A10, c10, rfl⟩ := Kd.R_slice H10.out
       have HBn := Aside0.mk hB
       have v0_ := (HBn.out.cell (p := ⟨q, 0, none⟩) HQL.out).trans y0
       have z0_ : ∀ o, (wq.alloc o).cell? ⟨q, 0, none⟩ = some SV := fun o => (World.cell?_alloc_lt _ _ _ (Nat.lt_of_lt_of_le HQL.out HBn.out.size)).trans v0_
       clear ho hB hg hat)
    | (refine Kd.S_append_step k51 (w0 := W0) tb ?hw (.tmp 5) (.tmp 12) 36 51 (.agg #[(.int .u64 0), (.int .u64 0), (.slice none 0 0)]) 40 rfl Tryd.underlying36 info51 rfl (by decide) (by omega) SV vs ⟨⟨lv, ix⟩, b⟩ [.int .u64 lv, .int .u64 ix, .slice A10 b.length c10] (fun _ => True) (fun k => W0.heap.size ≤ k) rfl rfl ?hp ?hok (fun _ _ => trivial) ?HO ?hB ?hbase ?aL ?_
       (case hw => simp [Region.wanted])
       (case hp => exact k51_mkM _ tb _ ⟨⟨lv, ix⟩, b⟩ (Kd.R_lower (by repeat (first | exact H10.out | (refine Kd.R_alloc ?_ _) | (refine Kd.R_drewN ?_ _) | (refine Kd.R_drew ?_))) (Nat.le_trans HTB.out HB.out.size)))
       (case hok => exact fun k hk => ⟨trivial, fun e => absurd (Kd.S_lt HS0.out k e.symm) (Nat.not_lt_of_le hk)⟩)
       (case HO => exact Kd.S_mono (Kd.S_step HS0.out (fun k hk _ => (show Below W0.heap.size W0 _ from (by repeat (first | exact HBn.out | exact Below.refl _ _ | (refine below_alloc ?_ _) | apply Below.drew | apply pw_below_drewN | apply below_drew))).block k hk)) (fun k hk => ⟨trivial, Nat.not_le_of_lt hk⟩))
       (case hB => exact (show Below W0.heap.size W0 _ from (by repeat (first | exact HBn.out | exact Below.refl _ _ | (refine below_alloc ?_ _) | apply Below.drew | apply pw_below_drewN | apply below_drew))).mono (Nat.le_trans HTB.out HB.out.size))
       (case hbase => exact Nat.le_trans (Nat.le_trans HTB.out HB.out.size) (below_size (show Below W0.heap.size W0 _ from (by repeat (first | exact HBn.out | exact Below.refl _ _ | (refine below_alloc ?_ _) | apply Below.drew | apply pw_below_drewN | apply below_drew)))))
       (case aL => have := HL.out; omega)
       intro v13 wq hS13 hB13 hg13 hat
       have HQ13 := Aside0.mk (show wq.heap[q]? = some (.cells #[SV] 36 (0, 0)) from by
         obtain ⟨hS, hH⟩ := (⟨hS13, hg13⟩ : _ ∧ _)
         exact (hH.block q (Nat.lt_of_lt_of_le HQL.out (below_size (show Below W0.heap.size W0 _ from (by repeat (first | exact HBn.out | exact Below.refl _ _ | (refine below_alloc ?_ _) | apply Below.drew | apply pw_below_drewN | apply below_drew))))) (fun e => blk_ne HQ0.out (Kd.S_typed HS0.out q e.symm).choose_spec (by decide) rfl)).trans (((show Below W0.heap.size W0 _ from (by repeat (first | exact HBn.out | exact Below.refl _ _ | (refine below_alloc ?_ _) | apply Below.drew | apply pw_below_drewN | apply below_drew))).block q HQL.out).trans HQ0.out))
       have HK13 := Aside0.mk (show ∀ k, k < W0.heap.size → some k ≠ SV.ownBlock → wq.heap[k]? = W0.heap[k]? from fun k hk hne => (hg13.block k (Nat.lt_of_lt_of_le hk (below_size (show Below W0.heap.size W0 _ from (by repeat (first | exact HBn.out | exact Below.refl _ _ | (refine below_alloc ?_ _) | apply Below.drew | apply pw_below_drewN | apply below_drew))))) hne).trans ((show Below W0.heap.size W0 _ from (by repeat (first | exact HBn.out | exact Below.refl _ _ | (refine below_alloc ?_ _) | apply Below.drew | apply pw_below_drewN | apply below_drew))).block k hk))
       have HS13 := Aside0.mk hS13
       have HB13 := Aside0.mk hB13
       have v0_ : wq.cell? ⟨q, 0, none⟩ = some SV := blk_cell HQ13.out 0
       obtain ⟨A13, c13, rfl⟩ := Kd.S_slice HS13.out
       have f0_ : wq.frozen? ⟨q, 0, none⟩ = false := blk_frozen HQ13.out 0
       clear hS13 hB13 hg13 hat)
    | fail)
  all_goals
    go_wp2
    go_end0
    exact ⟨rfl, seen_end HTB.out HB.out HS0.out HQ13.out HK13.out HB13.out (by have := HS13.out; rw [List.length_append] at this; exact this)⟩
end Go.Proofs.YtielnphmcaecdaaDoor.PAll
