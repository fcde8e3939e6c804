-- Written by a program of this session (wip/tools)
import Derived.Test.YtielnphmcaecdaaDoorQTRExtTreeA
import Derived.Test.YtielnphmcaecdaaDoorQTRTreeMem
import Derived.Test.YtielnphmcaecdaaDoorQTRPAllx4
import Derived.Outline
import Derived.Deep.QuietTactic
import Derived.BigQuiet
import Derived.Deep.RegionWith
import Derived.Deep.RegionLaw
import Derived.IntWalk
namespace Go.Proofs.YtielnphmcaecdaaDoor.PAll
open Go.IntWalk Go.RowKit Go.Proofs.YtielnphmcaecdaaDoorW.PrintWords Go.Proofs.YtielnphmcaecdaaDoorW.PrintLast Go.Proofs.YtielnphmcaecdaaDoorW.PrintMore
set_option linter.unusedVariables false
set_option linter.unusedSimpArgs false
structure RgAt (w : World) (tb p fq : Nat) (a0 a1 a2 a3 a4 a5 b e : Int) (A : Option Addr) (c : Nat) (ss : List SH) (xs : List (List Int)) : Prop where
  cell : w.heap[p]? = some (.cells #[.pointer (some ⟨fq, 0, none⟩), .int .u64 b, .int .u64 e, .slice A ss.length c] 148 (0, 0))
  fac : w.heap[fq]? = some (.cells #[.func (.func 50) #[toyV a0 a1 a2 a3 a4 a5] #[]] 92 (0, 0))
  row : Rw w tb (.slice A ss.length c) ss
  len : ss.length = xs.length
  txt : ∀ (j : Nat) (s : SH) (x : List Int), ss[j]? = some s → xs[j]? = some x → Txt tb w s x
theorem neq_nil (f q : Nat) (W : World) : (binOp BinOp.neq 149 (Value.func (Fn.func f) #[] #[.pointer (some ⟨q, 0, none⟩)]) Value.nilFunc).run Tryd.prog W = .ok (.bool true) W := by kernel_rfl
set_option maxHeartbeats 4000000 in
set_option maxRecDepth 100000 in
theorem newNode.calls (lv ix : Int) (w : World) : Calls Tryd.prog 94 #[.int .u64 lv, .int .u64 ix] w fun e w' => e = .returned (.agg #[.int .u64 lv, .int .u64 ix]) ∧ Below w.heap.size w w' := by
  have hu99 := Tryd.underlying99
  go_enter Tryd.func94, Tryd.ntmps94
  go_wp2_with (fail)
  refine bodyPost_ret (results_cell_row rfl _ _ w.heap.size 99 #[.int .u64 lv, .int .u64 ix] (0, 0) _ rfl (blk_new w _) Tryd.underlying99 rfl (by kernel_rfl)) rfl ?_
  exact ⟨rfl, below_alloc (Below.refl w.heap.size w) _⟩
theorem w64z {D : Nat} (h : D ≤ 64) : wrap64 (wrap64 (D : Int) - (D : Int)) = 0 := by unfold wrap64; omega
theorem ty_ne {w : World} {g g' t t' : Nat} {cs cs' : Array Value} (h : w.heap[g]? = some (.cells cs t (0, 0))) (h' : w.heap[g']? = some (.cells cs' t' (0, 0))) (hne : t ≠ t') : g ≠ g' := blk_ne h h' hne
theorem RgAt.vs {w w' : World} {tb p fq q : Nat} {a0 a1 a2 a3 a4 a5 b e : Int} {A : Option Addr} {c : Nat} {ss : List SH} {xs : List (List Int)} {SV : Array Value} (R : RgAt w tb p fq a0 a1 a2 a3 a4 a5 b e A c ss xs) (h : Vs q w w') (hq : w.heap[q]? = some (.cells SV 36 (0, 0))) : RgAt w' tb p fq a0 a1 a2 a3 a4 a5 b e A c ss xs where
  cell := h.blk R.cell (ty_ne R.cell hq (by decide)) (by decide)
  fac := h.blk R.fac (ty_ne R.fac hq (by decide)) (by decide)
  row := h.rw hq R.row
  len := R.len
  txt := fun j s x h1 h2 => (R.txt j s x h1 h2).pres (h.pres hq)
theorem RgAt.below {w w' : World} {tb p fq : Nat} {a0 a1 a2 a3 a4 a5 b e : Int} {A : Option Addr} {c : Nat} {ss : List SH} {xs : List (List Int)} (R : RgAt w tb p fq a0 a1 a2 a3 a4 a5 b e A c ss xs) (h : Below w.heap.size w w') : RgAt w' tb p fq a0 a1 a2 a3 a4 a5 b e A c ss xs where
  cell := blk_below R.cell h
  fac := blk_below R.fac h
  row := Kd.R_below R.row h
  len := R.len
  txt := fun j s x h1 h2 => (R.txt j s x h1 h2).pres (Pres5.below h)
structure Fx (p q : Nat) (row : Option Nat) (w w' : World) : Prop where
  os : w'.os = w.os
  tape : w'.tape = w.tape
  output : w'.output = w.output
  size : w.heap.size ≤ w'.heap.size
  block : ∀ k, k < w.heap.size → k ≠ p → k ≠ q → some k ≠ row → (∀ c, w.heap[k]? ≠ some (.cells c 51 (0, 0))) → w'.heap[k]? = w.heap[k]?
def visA (low : Nat) (ix : Nat → Int) (sds : Nat → List Int) (D : Nat) : List S51 := (List.range D).map fun t => ⟨⟨((low + t + 1 : Nat) : Int), ix (t + 1)⟩, sds (t + 1)⟩
theorem visA_succ (low : Nat) (ix : Nat → Int) (sds : Nat → List Int) (D : Nat) : visA low ix sds (D + 1) = visA low ix sds D ++ [⟨⟨((low + D + 1 : Nat) : Int), ix (D + 1)⟩, sds (D + 1)⟩] := by
  unfold visA
  rw [List.range_succ, List.map_append]; rfl
def Appd (w w' : World) (tb p fq q : Nat) (a0 a1 a2 a3 a4 a5 b en : Int) (A : Option Addr) (c n : Nat) (xs : List (List Int)) (vs : List S51) : Prop :=
  ∃ A' c' ss' SV', RgAt w' tb p fq a0 a1 a2 a3 a4 a5 b en A' c' ss' xs ∧ w'.heap[q]? = some (.cells #[SV'] 36 (0, 0)) ∧ Kd.S k51 51 w' tb (fun _ => True) SV' vs ∧ Fx p q (Value.slice A n c).ownBlock w w' ∧ (∀ B, B ≤ tb → B ≤ q → B ≤ p → Below B w w') ∧
    ((Value.slice A' ss'.length c').ownBlock = (Value.slice A n c).ownBlock ∨ ∃ g, (Value.slice A' ss'.length c').ownBlock = some g ∧ w.heap.size ≤ g)
theorem grown_two {w w1 w2 : World} {r0 : Option Nat} {v1 : Value} (h1 : w.grownBy w1 r0) (hat : v1.ownBlock = r0 ∨ ∃ g, v1.ownBlock = some g ∧ w.heap.size ≤ g) (h2 : w1.grownBy w2 v1.ownBlock) : w.grownBy w2 r0 :=
  ⟨h2.os.trans h1.os, h2.tape.trans h1.tape, h2.output.trans h1.output, Nat.le_trans h1.size h2.size, fun k hk hne => (h2.block k (Nat.lt_of_lt_of_le hk h1.size) (fun e => by
    rcases hat with h | ⟨g, hg, hle⟩
    · exact hne (e.trans h)
    · rw [hg] at e; injection e with e; omega)).trans (h1.block k hk hne)⟩
theorem hat_two {w w1 : World} {r0 : Option Nat} {v1 v2 : Value} (hs : w.heap.size ≤ w1.heap.size) (hat : v1.ownBlock = r0 ∨ ∃ g, v1.ownBlock = some g ∧ w.heap.size ≤ g) (hat2 : v2.ownBlock = v1.ownBlock ∨ ∃ g, v2.ownBlock = some g ∧ w1.heap.size ≤ g) : v2.ownBlock = r0 ∨ ∃ g, v2.ownBlock = some g ∧ w.heap.size ≤ g := by
  rcases hat2 with h | ⟨g, hg, hle⟩
  · rw [h]; exact hat
  · exact .inr ⟨g, hg, by omega⟩
theorem txt_snoc {w : World} {tb : Nat} {ss : List SH} {xs : List (List Int)} {s : SH} {x : List Int} (hl : ss.length = xs.length) (h : ∀ (j : Nat) (s : SH) (x : List Int), ss[j]? = some s → xs[j]? = some x → Txt tb w s x) (hx : Txt tb w s x) (m : Nat) (hm : m ≤ ss.length) :
    ∀ (j : Nat) (s' : SH) (x' : List Int), (ss.take m ++ [s])[j]? = some s' → (xs.take m ++ [x])[j]? = some x' → Txt tb w s' x' := by
  intro j s' x' h1 h2
  have l1 : (ss.take m).length = m := by rw [List.length_take]; omega
  have l2 : (xs.take m).length = m := by rw [List.length_take]; omega
  by_cases e : j < m
  · rw [List.getElem?_append_left (by omega), List.getElem?_take, if_pos e] at h1 h2
    exact h j s' x' h1 h2
  · have e2 : j = m := by
      have := (List.getElem?_eq_some_iff.1 h1).1
      rw [List.length_append, List.length_singleton] at this; omega
    subst e2
    rw [List.getElem?_append_right (by omega), l1, Nat.sub_self] at h1
    rw [List.getElem?_append_right (by omega), l2, Nat.sub_self] at h2
    obtain rfl := Option.some.inj h1
    obtain rfl := Option.some.inj h2
    exact hx
theorem own_at (A : Option Addr) (n m c d : Nat) : (Value.slice A n c).ownBlock = (Value.slice A m d).ownBlock := by cases A <;> rfl
theorem app_end {w wr w2 : World} {tb p fq q D : Nat} {a0 a1 a2 a3 a4 a5 b e en : Int} {A A6 : Option Addr} {c c6 : Nat} {ss : List SH} {xs : List (List Int)} {s : SH} {sd : List Int} {SV : Value} {vs : List S51} {L : Nat} (hL : L = (ss.take (ss.length - D) ++ [s]).length) (htb : tb ≤ w.heap.size) (R : RgAt wr tb p fq a0 a1 a2 a3 a4 a5 b e A c ss xs) (hs : Txt tb wr s sd)
    (hq : wr.heap[q]? = some (.cells #[SV] 36 (0, 0))) (hS : Kd.S k51 51 wr tb (fun _ => True) SV vs) (hVs : Vs q w wr) (hBB : ∀ B, B ≤ tb → B ≤ q → Below B w wr) (hR2 : Rw w2 tb (.slice A6 L c6) (ss.take (ss.length - D) ++ [s]))
    (hg : wr.grownBy w2 (Value.slice A ss.length c).ownBlock) (hat : (Value.slice A6 L c6).ownBlock = (Value.slice A ss.length c).ownBlock ∨ ∃ g, (Value.slice A6 L c6).ownBlock = some g ∧ wr.heap.size ≤ g) (hbw : Below tb wr w2) :
    Appd w ((w2.setCell ⟨p, 3, none⟩ (.slice A6 L c6)).setCell ⟨p, 2, none⟩ (.int .u64 en)) tb p fq q a0 a1 a2 a3 a4 a5 b en A c ss.length (xs.take (xs.length - D) ++ [sd]) vs := by
  subst hL
  have hty := Kd.R_typed R.row
  have hne : ∀ (g t : Nat) (cs : Array Value), wr.heap[g]? = some (.cells cs t (0, 0)) → t ≠ 27 → some g ≠ (Value.slice A ss.length c).ownBlock := fun g t cs h ht e => by
    obtain ⟨d, hd⟩ := hty g e.symm
    exact ty_ne h hd ht rfl
  have c2 := blk_grown R.cell hg (hne _ _ _ R.cell (by decide))
  have f2 := blk_grown R.fac hg (hne _ _ _ R.fac (by decide))
  have q2 := blk_grown hq hg (hne _ _ _ hq (by decide))
  have hfp : fq ≠ p := ty_ne R.fac R.cell (by decide)
  have hqp : q ≠ p := ty_ne hq R.cell (by decide)
  have c3 := blk_set c2 3 (.slice A6 (ss.take (ss.length - D) ++ [s]).length c6)
  have p1 : Pres5 wr w2 := Pres5.grown hg (fun k e => by obtain ⟨d, hd⟩ := hty k e; exact ⟨d, 27, by decide, hd⟩)
  have p2 := Pres5.set c2 (by decide) 3 (.slice A6 (ss.take (ss.length - D) ++ [s]).length c6)
  have p3 := Pres5.set c3 (by decide) 2 (.int .u64 en)
  refine ⟨A6, c6, _, SV, ⟨blk_set c3 2 (.int .u64 en), blk_far (blk_far f2 (p := ⟨p, 3, none⟩) hfp _) (p := ⟨p, 2, none⟩) hfp _, Kd.R_set (Kd.R_set hR2 c2 (by decide) _ _) c3 (by decide) _ _, ?_, ?_⟩, blk_far (blk_far q2 (p := ⟨p, 3, none⟩) hqp _) (p := ⟨p, 2, none⟩) hqp _, Kd.S_set (Kd.S_set (Kd.S_over' hS hty (by decide) hg) c2 (by decide) _ _) c3 (by decide) _ _, ?_, ?_, ?_⟩
  · rw [List.length_append, List.length_append, List.length_take, List.length_take, R.len]; rfl
  · intro j s' x' h1 h2
    rw [← R.len] at h2
    exact (((txt_snoc R.len R.txt hs (ss.length - D) (Nat.sub_le _ _) j s' x' h1 h2).pres p1).pres p2).pres p3
  · have hb0 := ((hBB 0 (Nat.zero_le _) (Nat.zero_le _)).trans (hbw.mono (Nat.zero_le _)))
    refine ⟨hb0.os, hb0.tape, hb0.output, by rw [World.size_setCell, World.size_setCell]; exact hb0.size, fun k hk h1 h2 h3 h4 => ?_⟩
    rw [Below.heap_setCell _ ⟨p, 2, none⟩ _ k h1, Below.heap_setCell _ ⟨p, 3, none⟩ _ k h1, hg.block k (Nat.lt_of_lt_of_le hk hVs.size) h3]
    exact hVs.block k hk h2 h4
  · intro B h1 h2 h3
    exact (((hBB B h1 h2).trans (hbw.mono h1)).setCell (p := ⟨p, 3, none⟩) h3 _).setCell (p := ⟨p, 2, none⟩) h3 _
  · rcases hat with h | ⟨g, h, hle⟩
    · exact .inl h
    · exact .inr ⟨g, h, Nat.le_trans hVs.size hle⟩
set_option maxHeartbeats 8000000 in
set_option maxRecDepth 100000 in
theorem appendOnes.calls (k : Nat) (a0 a1 a2 a3 a4 a5 : Int) (tb p fq q : Nat) (b e en : Int) (low D : Nat) (hiv : Int) (A : Option Addr) (c : Nat) (ss : List SH) (xs : List (List Int)) (As : Option Addr) (ns cs : Nat) (SV : Value) (vs : List S51) (ix : Nat → Int) (sds : Nat → List Int) (w : World)
    (hG : Glob w) (htb : tb ≤ w.heap.size) (R : RgAt w tb p fq a0 a1 a2 a3 a4 a5 b e A c ss xs) (hs : Txt tb w (As, ns, cs) (sds 0)) (hq : w.heap[q]? = some (.cells #[SV] 36 (0, 0))) (hS : Kd.S k51 51 w tb (fun _ => True) SV vs)
    (hmp : compact_getMergePath.f k b e en = some ((low : Int), hiv)) (hhi : hiv = ((low + D : Nat) : Int)) (hD64 : low + D ≤ 64)
    (hix0 : ix 0 = e / 2 ^ min low 64) (hixs : ∀ t, t < D → ix (t + 1) = ix t / 2) (hbit : ∀ t, t < D → Go.bits .and .u64 (ix t) 1 = 1)
    (hones : bits_OnesCount64.f (Go.bits .and .u64 (e / 2 ^ min low 64) (IntKind.u64.wrap (IntKind.u64.wrap (2 ^ min D 64) - 1))) = some (D : Int))
    (hDn : D ≤ xs.length) (hn : xs.length < 1099511627776) (hvs : vs.length + 64 < 1099511627776)
    (hsds : ∀ t, t < D → impl_toy_HashChildren.f k a0 a1 a2 a3 a4 a5 (xs.getD (xs.length - 1 - t) []) (sds t) = some (sds (t + 1))) (hsl : ∀ t, t ≤ D → (sds t).length ≤ 140737488355328) :
    Calls Tryd.prog 90 #[.pointer (some ⟨p, 0, none⟩), .int .u64 en, .slice As ns cs, .slice none 0 0, .func (.func 60) #[] #[.pointer (some ⟨q, 0, none⟩)]] w fun ex w' => ex = .returned .nilIface ∧ Appd w w' tb p fq q a0 a1 a2 a3 a4 a5 b en A c ss.length (xs.take (xs.length - D) ++ [sds D]) (vs ++ visA low ix sds D) := by
  have HG := Aside0.mk hG
  have HTB := Aside0.mk htb
  have HR := Aside0.mk R
  have HS := Aside0.mk hs
  have HQ := Aside0.mk hq
  have HV := Aside0.mk hS
  have HMP := Aside0.mk hmp
  have HON := Aside0.mk hones
  have g1 : decide (hiv < (low : Int)) = false := decide_eq_false (by omega)
  have hln := R.len
  have g2 : decide ((ss.length : Int) < (D : Int)) = false := decide_eq_false (by omega)
  have g3 : decide (ss.length < D) = false := decide_eq_false (by omega)
  have hlw : IntKind.u64.wrap (hiv - (low : Int)) = (D : Int) := by rw [hhi]; exact (congrArg IntKind.u64.wrap (by omega : (((low + D : Nat) : Int) - (low : Int)) = (D : Int))).trans (Go.Proofs.YtielnphmcaecdaaDoor.Num.u64in (by omega))
  have hzz : wrap64 (wrap64 (D : Int) - (D : Int)) = 0 := w64z (by omega)
  have HHI := Aside0.mk hhi
  have HD := Aside0.mk hD64
  have HI0 := Aside0.mk hix0
  have HIS := Aside0.mk hixs
  have HBT := Aside0.mk hbit
  have HDN := Aside0.mk hDn
  have HN := Aside0.mk hn
  have HVS := Aside0.mk hvs
  have HSD := Aside0.mk hsds
  have HSL := Aside0.mk hsl
  have y0 : w.cell? ⟨p, 0, none⟩ = some (.pointer (some ⟨fq, 0, none⟩)) := blk_cell R.cell 0
  have y1 : w.cell? ⟨p, 1, none⟩ = some (.int .u64 b) := blk_cell R.cell 1
  have y2 : w.cell? ⟨p, 2, none⟩ = some (.int .u64 e) := blk_cell R.cell 2
  have y3 : w.cell? ⟨p, 3, none⟩ = some (.slice A ss.length c) := blk_cell R.cell 3
  clear hones hln hG htb R hs hq hS hmp hhi hD64 hix0 hixs hbit hDn hn hvs hsds hsl
  go_enter Tryd.func90, Tryd.ntmps90
  go_wp2_with (fail)
  go_region_held_law (fun w' => w'.cell? ⟨p, 1, none⟩ = some (.int .u64 b) ∧ w'.cell? ⟨p, 2, none⟩ = some (.int .u64 e)) (first | exact ⟨y1, y2⟩ | go_keep) (first
    | (go_simp; go_at_call 111
       refine (compact_getMergePath.calls k b e en low hiv _ (HG.out.below (by repeat (first | exact Below.refl _ _ | apply Below.drew | apply below_drew))) HMP.out).mono ?_
       rintro ex wq ⟨rfl, hd⟩
       obtain ⟨⟨nd, rfl⟩⟩ := hd)
    | fail)
  go_wp2_with (fail)
  refine (bits_OnesCount64.calls _ (D : Int) _ HON.out).mono ?_
  rintro ex wq ⟨rfl, hd⟩
  obtain ⟨⟨nd2, rfl⟩⟩ := hd
  dsimp only
  go_wp2_with (fail)
  have hbd : Below w.heap.size w (w.drewN (1 + nd + nd2)) := pw_below_drewN (Below.refl _ _) _
  have HR1 := Aside0.mk (HR.out.below hbd)
  have HS1 := Aside0.mk (HS.out.pres (Pres5.below hbd))
  have HQ1 := Aside0.mk (blk_below HQ.out hbd)
  have HV1 := Aside0.mk (Kd.S_below HV.out hbd)
  have HVs := Aside0.mk (Vs.of (q := q) hbd)
  have HBB := Aside0.mk (show ∀ B, B ≤ tb → B ≤ q → Below B w (w.drewN (1 + nd + nd2)) from fun B h _ => hbd.mono (Nat.le_trans h HTB.out))
  generalize w.drewN (1 + nd + nd2) = W at hbd HR1 HS1 HQ1 HV1 HVs HBB ⊢
  clear y0 y1 y2 y3 HS HQ HV HMP HON hlw hzz g1 g2 g3 hbd
  rw [← HI0.out]
  go_loopg [2, 13, 18, 19, 20] D (fun kq v2 v13 v18 v19 v20 w' => ∃ (t : Nat) (s : SH) (SV' : Value), v2 = .slice s.1 s.2.1 s.2.2 ∧ v13 = .int .u64 (ix t) ∧ v18 = .int .i64 ((ss.length - t : Nat) : Int) ∧ v19 = .int .i64 0 ∧ v20 = .int .u64 ((low + t : Nat) : Int) ∧ Aside0 (t + kq = D) ∧ Aside0 (Txt tb w' s (sds t)) ∧ Aside0 (w'.heap[q]? = some (.cells #[SV'] 36 (0, 0))) ∧ Aside0 (Kd.S k51 51 w' tb (fun _ => True) SV' (vs ++ visA low ix sds t)) ∧ Aside0 (RgAt w' tb p fq a0 a1 a2 a3 a4 a5 b e A c ss xs) ∧ Aside0 (Vs q w w') ∧ Aside0 (∀ B, B ≤ tb → B ≤ q → Below B w w'))
  case atStart => exact ⟨0, (As, ns, cs), SV, rfl, rfl, rfl, rfl, rfl, ⟨by omega⟩, HS1, HQ1, ⟨by rw [show visA low ix sds 0 = [] from rfl, List.append_nil]; exact HV1.out⟩, HR1, HVs, HBB⟩
  case round =>
    clear HR1 HS1 HQ1 HV1 HVs HBB
    obtain ⟨t, ⟨A1, n1, c1⟩, SV1, rfl, rfl, rfl, rfl, rfl, HI, HS1, HQ1, HV1, HR1, HVs, HBB⟩ := hrel
    cases gk with
    | zero =>
      have et : t = D := by have := HI.out; omega
      subst et
      have g1 : decide (((low + t : Nat) : Int) < hiv) = false := decide_eq_false (by have := HHI.out; omega)
      have g1' : decide ((low : Int) + (t : Int) < hiv) = false := decide_eq_false (by have := HHI.out; omega)
      have hln : ss.length = xs.length := HR1.out.len
      obtain ⟨i0, hi0, _, hsz, _⟩ := info_parts info27
      have hRR := Kd.R_reads' HR1.out.row
      have hcut := cut_to (P := Tryd.prog) 25 27 .i64 Tryd.underlying25 hi0 A ss.length c ((ss.length - t : Nat) : Int) (by omega) (by omega) hRR.2.1
      rw [Int.toNat_natCast] at hcut
      have hcut2 := cut_from (P := Tryd.prog) 25 27 .i64 Tryd.underlying25 hi0 1 hsz none 0 0 (0 : Int) (by omega) (by omega)
      have hRT := Kd.R_take (m := ss.length - t) HR1.out.row (by omega)
      have y3 : wr.cell? ⟨p, 3, none⟩ = some (.slice A ss.length c) := blk_cell HR1.out.cell 3
      have z3 : ∀ o, (wr.alloc o).cell? ⟨p, 3, none⟩ = some (.slice A ss.length c) := fun o => (World.cell?_alloc_lt _ _ _ (blk_lt HR1.out.cell)).trans y3
      have HRT := Aside0.mk hRT
      have HSZ := Aside0.mk (show tb ≤ wr.heap.size from Nat.le_trans HTB.out HVs.out.size)
      have HLN := Aside0.mk hln
      clear hRR hRT hi0 hsz hln
      go_wp2_with (fail)
      go_region_law (first
        | (refine Kd.R_append_step kSH (w0 := wr) (W := wr.drew) tb ?hw (.tmp 137) (.tmp 139) 25 27 (.slice none 0 0) 24 rfl Tryd.underlying25 info27 rfl (by decide) (by omega) (.slice A (ss.length - t) c) (ss.take (ss.length - t)) (A1, n1, c1) [.slice A1 n1 c1] (fun _ => True) (fun _ => False) rfl rfl ?aP (fun _ h => h.elim) ?aF ?aO ?aB ?aS ?aL ?_
           (case hw => simp [Region.wanted])
           (case aP => rfl)
           (case aF => exact fun _ _ => trivial)
           (case aO => repeat (first | exact HRT.out | (refine Kd.R_alloc ?_ _) | (refine Kd.R_drewN ?_ _) | (refine Kd.R_drew ?_)))
           (case aB => repeat (first | exact Below.refl _ _ | apply Below.drew | apply below_drew))
           (case aS => exact Nat.le_trans HSZ.out (below_size (show Below wr.heap.size wr _ by repeat (first | exact Below.refl _ _ | apply Below.drew | apply below_drew))))
           (case aL => have := HN.out; have := HLN.out; rw [List.length_take]; omega)
           intro v1 w1 hR1 hB1 hg1 hat1
           obtain ⟨A5, n5, c5, rfl, hn5⟩ : ∃ A n c, v1 = .slice A n c ∧ n = (ss.take (ss.length - t) ++ [(A1, n1, c1)]).length := by
             obtain ⟨A, c, h⟩ := Kd.R_slice hR1
             exact ⟨A, _, c, h, rfl⟩
           have HN5 := Aside0.mk hn5
           rw [own_at A (ss.length - t) ss.length c c] at hg1 hat1
           have HR5 := Aside0.mk hR1
           have HB5 := Aside0.mk hB1
           have HG5 := Aside0.mk (grown_from (show Below wr.heap.size wr wr.drew from below_drew (Below.refl _ _)) hg1)
           have HAT5 := Aside0.mk (hat_from (show Below wr.heap.size wr wr.drew from below_drew (Below.refl _ _)) hat1)
           clear hR1 hB1 hg1 hat1 hn5)
        | (refine Kd.R_append_rows_step kSH (w0 := wr) (W := w1) tb ?hw (.tmp 140) (.tmp 143) 25 27 (.slice none 0 0) 24 rfl Tryd.underlying25 info27 rfl (by decide) (by omega) (.slice A5 n5 c5) (ss.take (ss.length - t) ++ [(A1, n1, c1)]) [] none 0 0 (fun _ => True) (fun _ => False) rfl rfl ?aO (Kd.C_nil kSH w1) (fun _ _ h => h) (fun _ h => h.elim) ?aF ?aB ?aS ?aL ?_
           (case hw => simp [Region.wanted])
           (case aO => exact HR5.out)
           (case aF => exact fun _ _ => trivial)
           (case aB => exact HB5.out)
           (case aS => exact Nat.le_trans HSZ.out (HG5.out.size))
           (case aL => have := HN.out; have := HLN.out; simp only [List.length_append, List.length_take, List.length_singleton]; omega)
           intro v2 w2 hR2 hB2 hg2 hat2
           rw [List.append_nil] at hR2
           obtain ⟨A6, n6, c6, rfl, hn6⟩ : ∃ A n c, v2 = .slice A n c ∧ n = (ss.take (ss.length - t) ++ [(A1, n1, c1)]).length := by
             obtain ⟨A, c, h⟩ := Kd.R_slice hR2
             exact ⟨A, _, c, h, rfl⟩
           have HN6 := Aside0.mk hn6
           have HR6 := Aside0.mk hR2
           have HB6 := Aside0.mk hB2
           have HG6 := Aside0.mk (grown_two HG5.out HAT5.out hg2)
           have HAT6 := Aside0.mk (hat_two HG5.out.size HAT5.out hat2)
           have hpc := blk_grown HR1.out.cell HG6.out (fun e => by obtain ⟨d, hd⟩ := Kd.R_typed HR1.out.row p e.symm; exact ty_ne HR1.out.cell hd (by decide) rfl)
           have f3 : w2.frozen? ⟨p, 3, none⟩ = false := blk_frozen hpc 3
           have f2 : w2.frozen? ⟨p, 2, none⟩ = false := blk_frozen hpc 2
           have y3_ : w2.cell? ⟨p, 3, none⟩ = some (.slice A ss.length c) := blk_cell hpc 3
           have y2_ : w2.cell? ⟨p, 2, none⟩ = some (.int .u64 e) := blk_cell hpc 2
           clear hR2 hB2 hg2 hat2 hpc hn6)
        | fail)
      all_goals
        go_wp2_with (fail)
        go_ret
        exact ⟨rfl, app_end HN6.out HTB.out HR1.out HS1.out HQ1.out HV1.out HVs.out HBB.out HR6.out HG6.out HAT6.out HB6.out⟩
    | succ k1 =>
      have ht : t < D := by have := HI.out; omega
      have g1 : decide (((low + t : Nat) : Int) < hiv) = true := decide_eq_true (by have := HHI.out; omega)
      have g1' : decide ((low : Int) + (t : Int) < hiv) = true := decide_eq_true (by have := HHI.out; omega)
      have hbit := HBT.out t ht
      have g2 : (Go.bits .and .u64 (ix t) 1 == 0) = false := by rw [hbit]; rfl
      have hln : ss.length = xs.length := HR1.out.len
      obtain ⟨m, hm⟩ : ∃ m, m = ss.length - 1 - t := ⟨_, rfl⟩
      have hml : m < ss.length := by have := HDN.out; omega
      have hidx : wrap64 (((ss.length - t : Nat) : Int) - 1) = (m : Int) := by
        have := HDN.out; have := HN.out
        unfold wrap64; omega
      obtain ⟨g0, cc, e0, hg0⟩ := kSH_form (s := (A, ss.length, c)) HR1.out.row (by omega)
      simp only [Prod.mk.injEq] at e0
      obtain ⟨rfl, -, rfl⟩ := e0
      obtain ⟨⟨Am, nm, cm⟩, hsm⟩ : ∃ s, ss[m]? = some s := ⟨_, List.getElem?_eq_getElem hml⟩
      obtain ⟨xm, hxm⟩ : ∃ x, xs[m]? = some x := ⟨_, List.getElem?_eq_getElem (by omega)⟩
      have x1 : wr.cell? ⟨g0, m, none⟩ = some (.slice Am nm cm) := (kSH_cell HR1.out.row hsm).1
      obtain ⟨rfl, hy2, hy3⟩ := (HR1.out.txt m _ _ hsm hxm).read
      obtain ⟨rfl, hx2, hx3⟩ := HS1.out.read
      have hcall := HSD.out t ht
      rw [← hln, ← hm, List.getD_eq_getElem?_getD, hxm, Option.getD_some] at hcall
      have d0 : 0 ≤ (m : Int) := by omega
      have d1 : (m : Int) < (ss.length : Int) := by omega
      have d2 : decide ((m : Int) < (ss.length : Int)) = true := decide_eq_true d1
      have d3 : decide (m < ss.length) = true := decide_eq_true hml
      have y0 : wr.cell? ⟨p, 0, none⟩ = some (.pointer (some ⟨fq, 0, none⟩)) := blk_cell HR1.out.cell 0
      have y3 : wr.cell? ⟨p, 3, none⟩ = some (.slice (some ⟨g0, 0, none⟩) ss.length c) := blk_cell HR1.out.cell 3
      have y4 : wr.cell? ⟨fq, 0, none⟩ = some (.func (.func 50) #[toyV a0 a1 a2 a3 a4 a5] #[]) := blk_cell HR1.out.fac 0
      have HY2 := Aside0.mk hy2
      have HY3 := Aside0.mk hy3
      have HX2 := Aside0.mk hx2
      have HX3 := Aside0.mk hx3
      have HCL := Aside0.mk hcall
      have HTD := Aside0.mk ht
      have HL0 := Aside0.mk (show p < wr.heap.size from blk_lt HR1.out.cell)
      have HL1 := Aside0.mk (show fq < wr.heap.size from blk_lt HR1.out.fac)
      have HL2 := Aside0.mk (show g0 < wr.heap.size from World.block_lt_of_cell? _ _ x1)
      have HMM := Aside0.mk hm
      clear hy2 hy3 hx2 hx3 hcall ht hg0 hsm hxm hm hln hbit
      go_wp2_with (fail)
      go_region_held_law (fun w' => w'.cell? ⟨p, 0, none⟩ = some (.pointer (some ⟨fq, 0, none⟩)) ∧ w'.cell? ⟨p, 3, none⟩ = some (.slice (some ⟨g0, 0, none⟩) ss.length c) ∧ w'.cell? ⟨fq, 0, none⟩ = some (.func (.func 50) #[toyV a0 a1 a2 a3 a4 a5] #[]) ∧ w'.cell? ⟨g0, m, none⟩ = some (.slice Am xm.length cm)) (first | exact ⟨u0, u3, u4, u5⟩ | exact ⟨y0, y3, y4, x1⟩ | go_keep) (first
        | (go_simp; go_at_call 50
           refine (impl_toy_HashChildren.calls k a0 a1 a2 a3 a4 a5 Am cm xm A1 c1 (sds t) (sds (t + 1)) _ ?s1 HY2.out ?s3 HX2.out HCL.out).mono ?_
           (case s1 => repeat (first | exact HY3.out | (refine Kd.C_drewN ?_ _) | (refine Kd.C_drew ?_)))
           (case s3 => repeat (first | exact HX3.out | (refine Kd.C_drewN ?_ _) | (refine Kd.C_drew ?_)))
           rintro e w4 ⟨v4, rfl, hR4, hb4⟩
           have HB4 := Aside0.mk (show Below wr.heap.size wr w4 from below_step (by repeat (first | exact Below.refl _ _ | apply Below.drew | apply pw_below_drewN | apply below_drew)) hb4)
           have HR4 := Aside0.mk hR4
           have u0 := (HB4.out.cell (p := ⟨p, 0, none⟩) HL0.out).trans y0
           have u3 := (HB4.out.cell (p := ⟨p, 3, none⟩) HL0.out).trans y3
           have u4 := (HB4.out.cell (p := ⟨fq, 0, none⟩) HL1.out).trans y4
           have u5 := (HB4.out.cell (p := ⟨g0, m, none⟩) HL2.out).trans x1
           clear hR4 hb4)
        | fail)
      replace HR1 := Aside0.mk (HR1.out.below HB4.out)
      replace HQ1 := Aside0.mk (blk_below HQ1.out HB4.out)
      replace HV1 := Aside0.mk (Kd.S_below HV1.out HB4.out)
      have hsz : tb ≤ wr.heap.size := Nat.le_trans HTB.out HVs.out.size
      replace HBB := Aside0.mk (show ∀ B, B ≤ tb → B ≤ q → Below B w w4 from fun B h1 h2 => (HBB.out B h1 h2).trans (HB4.out.mono (Nat.le_trans h1 hsz)))
      replace HVs := Aside0.mk (HVs.out.trans (Vs.of HB4.out))
      obtain ⟨⟨A4, n4, c4⟩, e4⟩ := kSH_val' HR4.out
      subst e4
      have HT4 := Aside0.mk (Txt.of_R HR4.out hsz)
      clear y0 y3 y4 x1 u0 u3 u4 u5 HR4 HB4 HS1 HL0 HL1 HL2 HY2 HY3 HX2 HX3 HCL d0 d1 d2 d3 hidx hml hsz g1 g1' g2
      have hnq := fun W => neq_nil 60 q W
      have hwr : IntKind.u64.wrap ((low : Int) + (t : Int) + 1) = ((low + t + 1 : Nat) : Int) := (congrArg IntKind.u64.wrap (by omega : (low : Int) + (t : Int) + 1 = ((low + t + 1 : Nat) : Int))).trans (Go.Proofs.YtielnphmcaecdaaDoor.Num.u64in (by have := HD.out; have := HTD.out; omega))
      have hwr2 : IntKind.u64.wrap (((low + t : Nat) : Int) + 1) = ((low + t + 1 : Nat) : Int) := (congrArg IntKind.u64.wrap (by omega : ((low + t : Nat) : Int) + 1 = ((low + t + 1 : Nat) : Int))).trans (Go.Proofs.YtielnphmcaecdaaDoor.Num.u64in (by have := HD.out; have := HTD.out; omega))
      obtain ⟨rfl, ht2, ht3⟩ := HT4.out.read
      have HT2 := Aside0.mk ht2
      have HT3 := Aside0.mk ht3
      clear ht2 ht3
      dsimp only [shE]
      go_step
      try simp [Act.put]
      try go_step
      go_wp2_with (fail)
      refine (newNode.calls _ _ _).mono ?_
      rintro e w5 ⟨rfl, hb5⟩
      dsimp only
      replace HR1 := Aside0.mk (HR1.out.below hb5)
      replace HQ1 := Aside0.mk (blk_below HQ1.out hb5)
      replace HV1 := Aside0.mk (Kd.S_below HV1.out hb5)
      replace HT4 := Aside0.mk (HT4.out.pres (Pres5.below hb5))
      replace HT3 := Aside0.mk (Kd.C_below HT3.out hb5)
      have hsz : tb ≤ w4.heap.size := Nat.le_trans HTB.out HVs.out.size
      replace HBB := Aside0.mk (show ∀ B, B ≤ tb → B ≤ q → Below B w w5 from fun B h1 h2 => (HBB.out B h1 h2).trans (hb5.mono (Nat.le_trans h1 hsz)))
      replace HVs := Aside0.mk (HVs.out.trans (Vs.of hb5))
      clear hb5 hsz
      go_wp2_with (fail)
      have hsz : tb ≤ w5.heap.size := Nat.le_trans HTB.out HVs.out.size
      refine (seen60.calls _ _ A4 c4 (sds (t + 1)) tb q SV1 _ _ hsz HQ1.out HV1.out HT3.out HT2.out (by have := HVS.out; have := HTD.out; have := HD.out; rw [List.length_append]; unfold visA; rw [List.length_map, List.length_range]; omega) (HSL.out _ HTD.out)).mono ?_
      rintro e w6 ⟨rfl, SV6, hq6, hS6, hbb6, hvs6⟩
      have HQ6 := Aside0.mk hq6
      have HS6 := Aside0.mk hS6
      have HR6 := Aside0.mk (HR1.out.vs hvs6 HQ1.out)
      have HT6 := Aside0.mk (HT4.out.pres (hvs6.pres HQ1.out))
      have HVs6 := Aside0.mk (HVs.out.trans hvs6)
      have HBB6 := Aside0.mk (show ∀ B, B ≤ tb → B ≤ q → Below B w w6 from fun B h1 h2 => (HBB.out B h1 h2).trans (hbb6 B h1 h2))
      clear hq6 hS6 hbb6 hvs6 hsz HR1 HT4 HVs HBB HQ1 HV1
      dsimp only
      go_wp2
      go_roundg k1
      case measure => omega
      case rel =>
        refine ⟨t + 1, (A4, (sds (t + 1)).length, c4), SV6, rfl, ?_, ?_, rfl, ?_, ⟨by have := HI.out; omega⟩, HT6, HQ6, ⟨?_⟩, HR6, HVs6, HBB6⟩
        · rw [HIS.out t HTD.out]
        · rw [HMM.out]; congr 2; omega
        · congr 1
        · rw [visA_succ, ← List.append_assoc, HIS.out t HTD.out]
          have h := HS6.out
          rwa [show ((low : Int) + (t : Int) + 1) = ((low + t + 1 : Nat) : Int) by omega] at h
end Go.Proofs.YtielnphmcaecdaaDoor.PAll
namespace Go.Proofs.YtielnphmcaecdaaDoor.PAll
open Go.IntWalk Go.RowKit Go.Proofs.YtielnphmcaecdaaDoorW.PrintWords Go.Proofs.YtielnphmcaecdaaDoorW.PrintLast Go.Proofs.YtielnphmcaecdaaDoorW.PrintMore
set_option linter.unusedVariables false
set_option linter.unusedSimpArgs false
set_option maxHeartbeats 8000000 in
set_option maxRecDepth 100000 in
theorem appendNone.calls (k : Nat) (a0 a1 a2 a3 a4 a5 : Int) (tb p fq q : Nat) (b e en : Int) (low : Nat) (hiv : Int) (A : Option Addr) (c : Nat) (ss : List SH) (xs : List (List Int)) (As : Option Addr) (ns cs : Nat) (SV : Value) (vs : List S51) (sds : List Int) (w : World)
    (hG : Glob w) (htb : tb ≤ w.heap.size) (R : RgAt w tb p fq a0 a1 a2 a3 a4 a5 b e A c ss xs) (hs : Txt tb w (As, ns, cs) sds) (hq : w.heap[q]? = some (.cells #[SV] 36 (0, 0))) (hS : Kd.S k51 51 w tb (fun _ => True) SV vs)
    (hmp : compact_getMergePath.f k b e en = some ((low : Int), hiv)) (hhi : hiv < (low : Int)) (hD64 : low ≤ 64)
    (hones : bits_OnesCount64.f (Go.bits .and .u64 (e / 2 ^ min low 64) 0) = some 0)
    (hn : xs.length < 1099511627776) :
    Calls Tryd.prog 90 #[.pointer (some ⟨p, 0, none⟩), .int .u64 en, .slice As ns cs, .slice none 0 0, .func (.func 60) #[] #[.pointer (some ⟨q, 0, none⟩)]] w fun ex w' => ex = .returned .nilIface ∧ Appd w w' tb p fq q a0 a1 a2 a3 a4 a5 b en A c ss.length (xs ++ [sds]) vs := by
  have HG := Aside0.mk hG
  have HTB := Aside0.mk htb
  have HR := Aside0.mk R
  have HS := Aside0.mk hs
  have HQ := Aside0.mk hq
  have HV := Aside0.mk hS
  have HMP := Aside0.mk hmp
  have HON := Aside0.mk hones
  have g1 : decide (hiv < (low : Int)) = true := decide_eq_true hhi
  have hln := R.len
  have HHI := Aside0.mk hhi
  have HD := Aside0.mk hD64
  have HN := Aside0.mk hn
  have y0 : w.cell? ⟨p, 0, none⟩ = some (.pointer (some ⟨fq, 0, none⟩)) := blk_cell R.cell 0
  have y1 : w.cell? ⟨p, 1, none⟩ = some (.int .u64 b) := blk_cell R.cell 1
  have y2 : w.cell? ⟨p, 2, none⟩ = some (.int .u64 e) := blk_cell R.cell 2
  have y3 : w.cell? ⟨p, 3, none⟩ = some (.slice A ss.length c) := blk_cell R.cell 3
  clear hones hln hG htb R hs hq hS hmp hhi hD64 hn
  go_enter Tryd.func90, Tryd.ntmps90
  go_wp2_with (fail)
  go_region_held_law (fun w' => w'.cell? ⟨p, 1, none⟩ = some (.int .u64 b) ∧ w'.cell? ⟨p, 2, none⟩ = some (.int .u64 e)) (first | exact ⟨y1, y2⟩ | go_keep) (first
    | (go_simp; go_at_call 111
       refine (compact_getMergePath.calls k b e en low hiv _ (HG.out.below (by repeat (first | exact Below.refl _ _ | apply Below.drew | apply below_drew))) HMP.out).mono ?_
       rintro ex wq ⟨rfl, hd⟩
       obtain ⟨⟨nd, rfl⟩⟩ := hd)
    | fail)
  go_wp2_with (fail)
  refine (bits_OnesCount64.calls _ 0 _ HON.out).mono ?_
  rintro ex wq ⟨rfl, hd⟩
  obtain ⟨⟨nd2, rfl⟩⟩ := hd
  dsimp only
  go_wp2_with (fail)
  have hbd : Below w.heap.size w (w.drewN (1 + nd + nd2)) := pw_below_drewN (Below.refl _ _) _
  have HR1 := Aside0.mk (HR.out.below hbd)
  have HS1 := Aside0.mk (HS.out.pres (Pres5.below hbd))
  have HQ1 := Aside0.mk (blk_below HQ.out hbd)
  have HV1 := Aside0.mk (Kd.S_below HV.out hbd)
  have HVs := Aside0.mk (Vs.of (q := q) hbd)
  have HBB := Aside0.mk (show ∀ B, B ≤ tb → B ≤ q → Below B w (w.drewN (1 + nd + nd2)) from fun B h _ => hbd.mono (Nat.le_trans h HTB.out))
  generalize w.drewN (1 + nd + nd2) = W at hbd HR1 HS1 HQ1 HV1 HVs HBB ⊢
  clear y0 y1 y2 y3 HS HQ HV HMP HON g1 hbd
  go_loopg [2, 13, 18, 19, 20] 0 (fun kq v2 v13 v18 v19 v20 w' => ∃ (SV' : Value), v2 = .slice As ns cs ∧ v18 = .int .i64 (ss.length : Int) ∧ v19 = .int .i64 0 ∧ v20 = .int .u64 (low : Int) ∧ Aside0 (0 = kq) ∧ Aside0 (Txt tb w' (As, ns, cs) sds) ∧ Aside0 (w'.heap[q]? = some (.cells #[SV'] 36 (0, 0))) ∧ Aside0 (Kd.S k51 51 w' tb (fun _ => True) SV' vs) ∧ Aside0 (RgAt w' tb p fq a0 a1 a2 a3 a4 a5 b e A c ss xs) ∧ Aside0 (Vs q w w') ∧ Aside0 (∀ B, B ≤ tb → B ≤ q → Below B w w'))
  case atStart => exact ⟨SV, rfl, rfl, rfl, rfl, ⟨rfl⟩, HS1, HQ1, HV1, HR1, HVs, HBB⟩
  case round =>
    clear HR1 HS1 HQ1 HV1 HVs HBB
    obtain ⟨SV1, rfl, rfl, rfl, rfl, HI, HS1, HQ1, HV1, HR1, HVs, HBB⟩ := hrel
    cases gk with
    | zero =>
      have g1 : decide ((low : Int) < (low : Int)) = false := decide_eq_false (by omega)
      have hln : ss.length = xs.length := HR1.out.len
      obtain ⟨i0, hi0, _, hsz, _⟩ := info_parts info27
      have hRR := Kd.R_reads' HR1.out.row
      have hcut := cut_to (P := Tryd.prog) 25 27 .i64 Tryd.underlying25 hi0 A ss.length c (ss.length : Int) (by omega) (by omega) hRR.2.1
      rw [Int.toNat_natCast] at hcut
      have hcut2 := cut_from (P := Tryd.prog) 25 27 .i64 Tryd.underlying25 hi0 1 hsz none 0 0 (0 : Int) (by omega) (by omega)
      have hRT := Kd.R_take (m := ss.length) HR1.out.row (by omega)
      have y3 : wr.cell? ⟨p, 3, none⟩ = some (.slice A ss.length c) := blk_cell HR1.out.cell 3
      have z3 : ∀ o, (wr.alloc o).cell? ⟨p, 3, none⟩ = some (.slice A ss.length c) := fun o => (World.cell?_alloc_lt _ _ _ (blk_lt HR1.out.cell)).trans y3
      have HRT := Aside0.mk hRT
      have HSZ := Aside0.mk (show tb ≤ wr.heap.size from Nat.le_trans HTB.out HVs.out.size)
      have HLN := Aside0.mk hln
      clear hRR hRT hi0 hsz hln
      go_wp2_with (fail)
      go_region_law (first
        | (refine Kd.R_append_step kSH (w0 := wr) (W := wr.drew) tb ?hw (.tmp 137) (.tmp 139) 25 27 (.slice none 0 0) 24 rfl Tryd.underlying25 info27 rfl (by decide) (by omega) (.slice A (ss.length) c) (ss.take (ss.length - 0)) (As, ns, cs) [.slice As ns cs] (fun _ => True) (fun _ => False) rfl rfl ?aP (fun _ h => h.elim) ?aF ?aO ?aB ?aS ?aL ?_
           (case hw => simp [Region.wanted])
           (case aP => rfl)
           (case aF => exact fun _ _ => trivial)
           (case aO => repeat (first | exact HRT.out | (refine Kd.R_alloc ?_ _) | (refine Kd.R_drewN ?_ _) | (refine Kd.R_drew ?_)))
           (case aB => repeat (first | exact Below.refl _ _ | apply Below.drew | apply below_drew))
           (case aS => exact Nat.le_trans HSZ.out (below_size (show Below wr.heap.size wr _ by repeat (first | exact Below.refl _ _ | apply Below.drew | apply below_drew))))
           (case aL => have := HN.out; have := HLN.out; rw [List.length_take]; omega)
           intro v1 w1 hR1 hB1 hg1 hat1
           obtain ⟨A5, n5, c5, rfl, hn5⟩ : ∃ A n c, v1 = .slice A n c ∧ n = (ss.take (ss.length - 0) ++ [(As, ns, cs)]).length := by
             obtain ⟨A, c, h⟩ := Kd.R_slice hR1
             exact ⟨A, _, c, h, rfl⟩
           have HN5 := Aside0.mk hn5
           have HR5 := Aside0.mk hR1
           have HB5 := Aside0.mk hB1
           have HG5 := Aside0.mk (grown_from (show Below wr.heap.size wr wr.drew from below_drew (Below.refl _ _)) hg1)
           have HAT5 := Aside0.mk (hat_from (show Below wr.heap.size wr wr.drew from below_drew (Below.refl _ _)) hat1)
           clear hR1 hB1 hg1 hat1 hn5)
        | (refine Kd.R_append_rows_step kSH (w0 := wr) (W := w1) tb ?hw (.tmp 140) (.tmp 143) 25 27 (.slice none 0 0) 24 rfl Tryd.underlying25 info27 rfl (by decide) (by omega) (.slice A5 n5 c5) (ss.take (ss.length - 0) ++ [(As, ns, cs)]) [] none 0 0 (fun _ => True) (fun _ => False) rfl rfl ?aO (Kd.C_nil kSH w1) (fun _ _ h => h) (fun _ h => h.elim) ?aF ?aB ?aS ?aL ?_
           (case hw => simp [Region.wanted])
           (case aO => exact HR5.out)
           (case aF => exact fun _ _ => trivial)
           (case aB => exact HB5.out)
           (case aS => exact Nat.le_trans HSZ.out (HG5.out.size))
           (case aL => have := HN.out; have := HLN.out; simp only [List.length_append, List.length_take, List.length_singleton]; omega)
           intro v2 w2 hR2 hB2 hg2 hat2
           rw [List.append_nil] at hR2
           obtain ⟨A6, n6, c6, rfl, hn6⟩ : ∃ A n c, v2 = .slice A n c ∧ n = (ss.take (ss.length - 0) ++ [(As, ns, cs)]).length := by
             obtain ⟨A, c, h⟩ := Kd.R_slice hR2
             exact ⟨A, _, c, h, rfl⟩
           have HN6 := Aside0.mk hn6
           have HR6 := Aside0.mk hR2
           have HB6 := Aside0.mk hB2
           have HG6 := Aside0.mk (grown_two HG5.out HAT5.out hg2)
           have HAT6 := Aside0.mk (hat_two HG5.out.size HAT5.out hat2)
           have hpc := blk_grown HR1.out.cell HG6.out (fun e => by obtain ⟨d, hd⟩ := Kd.R_typed HR1.out.row p e.symm; exact ty_ne HR1.out.cell hd (by decide) rfl)
           have f3 : w2.frozen? ⟨p, 3, none⟩ = false := blk_frozen hpc 3
           have f2 : w2.frozen? ⟨p, 2, none⟩ = false := blk_frozen hpc 2
           have y3_ : w2.cell? ⟨p, 3, none⟩ = some (.slice A ss.length c) := blk_cell hpc 3
           have y2_ : w2.cell? ⟨p, 2, none⟩ = some (.int .u64 e) := blk_cell hpc 2
           clear hR2 hB2 hg2 hat2 hpc hn6)
        | fail)
      all_goals
        go_wp2_with (fail)
        go_ret
        have hend := app_end (D := 0) (en := en) HN6.out HTB.out HR1.out HS1.out HQ1.out HV1.out HVs.out HBB.out HR6.out HG6.out HAT6.out HB6.out
        rw [Nat.sub_zero, List.take_length] at hend
        exact ⟨rfl, hend⟩
    | succ k1 => exact absurd HI.out (by omega)
end Go.Proofs.YtielnphmcaecdaaDoor.PAll
namespace Go.Proofs.YtielnphmcaecdaaDoor.PAll
open Go.RowKit Go.Proofs.YtielnphmcaecdaaDoor.Mth Go.Proofs.YtielnphmcaecdaaDoorW.PrintWords Go.Proofs.YtielnphmcaecdaaDoorW.PrintLast Go.Proofs.YtielnphmcaecdaaDoorW.PrintMore
set_option linter.unusedVariables false
def Looks (ids : List S99) (rows : List (List SH)) (ss : List SH) : Prop :=
  ss.length = ids.length ∧ ∀ (i : Nat) (id : S99), ids[i]? = some id → ∃ (a b : Nat) (rs : List SH) (s : SH), id = ⟨(a : Int), (b : Int)⟩ ∧ rows[a]? = some rs ∧ rs[b]? = some s ∧ ss[i]? = some s
theorem rd99 {ids : List S99} {i : Nat} {id : S99} (h : ids[i]? = some id) : rd_T99 ids (i : Int) = id := by
  unfold rd_T99
  rw [Int.toNat_natCast, List.getD_eq_getElem?_getD, h]; rfl
theorem kSH_put {e : Nat} {W : World} {base g n cap : Nat} {ok : Nat → Prop} {xs : List SH} {i : Nat} (h : kSH.R e W base ok (.slice (some ⟨g, 0, none⟩) n cap) xs) (x : SH) : kSH.R e (W.setCell ⟨g, i, none⟩ (shE x)) base ok (.slice (some ⟨g, 0, none⟩) n cap) (xs.set i x) := by
  have := Kd.R_putn (enc := shE) h (i : Int) x
  rw [Int.toNat_natCast] at this
  exact this
set_option maxHeartbeats 16000000 in
set_option maxRecDepth 100000 in
theorem treeGetNodes.calls (tb base g : Nat) (hv : Value) (nI : Int) (H : SH) (hs : List SH) (rows : List (List SH)) (val : Nat → Nat → List Int) (w : World) (T : TreeAt w tb base g hv nI H hs rows val) (A : Option Addr) (c : Nat) (ids : List S99) (hr : Kd.C k99 w A ids.length ids) (hc : ids.length ≤ c) (hl : ids.length ≤ 100000) (ss : List SH) (look : Looks ids rows ss) :
    Calls Tryd.prog 83 #[.pointer (some ⟨g, 0, none⟩), .slice A ids.length c] w fun e w' => ∃ v, e = .returned v ∧ Rw w' w.heap.size v ss ∧ Below w.heap.size w w' := by
  have HT := Aside0.mk T
  have HR := Aside0.mk hr
  have HC := Aside0.mk hc
  have HLL := Aside0.mk hl
  have HK := Aside0.mk look
  have hl0 : (ids.length : Int) ≤ 100000 := by omega
  clear T hr hc hl look
  go_enter Tryd.func83, Tryd.ntmps83
  go_wp2_with (first | ((with_reducible refine gate_dst (N := 10) rfl ?_); refine Kd.R_make kSH (w0 := w) w.heap.size 27 rfl (N := 10) rfl 25 _ _ rfl (ids.length : Int) rfl rfl Tryd.underlying25 (.slice none 0 0) 24 info27 rfl (by decide) (by omega) (none, 0, 0) (ok := fun _ => True) (okp := fun _ => True) rfl (fun _ hk => hk) trivial (by omega) (by omega) (Below.refl _ _) (Nat.le_refl _) ?_; intro v1 w1 ho1 hb1 hg1 hn1; have HO1 := Aside0.mk ho1; have HB1 := Aside0.mk hb1; clear ho1 hb1 hg1 hn1; obtain ⟨A1, c1, e1⟩ := Kd.R_slice HO1.out; subst e1))
  try simp only [Act.put, List.setIfInBounds_toArray, List.set_cons_zero, List.set_cons_succ]
  obtain ⟨zs, hzs⟩ : ∃ zs : List SH, zs = List.replicate (ids.length : Int).toNat ((none, 0, 0) : SH) := ⟨_, rfl⟩
  have hzl : zs.length = ids.length := by rw [hzs, List.length_replicate, Int.toNat_natCast]
  have HZ : Aside0 (kSH.R 27 w1 w.heap.size (fun _ => True) (.slice A1 ids.length c1) zs) := ⟨by rw [hzs]; have := HO1.out; rw [List.length_replicate, Int.toNat_natCast] at this; exact this⟩
  have HZL := Aside0.mk hzl
  clear HO1 hzs hzl
  go_loopg [13] ids.length (fun kq v13 w' => ∃ (i : Nat) (xs : List SH), v13 = .int .i64 (i : Int) ∧ Aside0 (i + kq = ids.length) ∧ Aside0 (xs.length = ids.length) ∧ Aside0 (∀ j, j < i → xs[j]? = ss[j]?) ∧ Aside0 (kSH.R 27 w' w.heap.size (fun _ => True) (.slice A1 ids.length c1) xs) ∧ Aside0 (Below w.heap.size w w'))
  case atStart => exact ⟨0, zs, rfl, ⟨by omega⟩, HZL, ⟨fun j hj => absurd hj (by omega)⟩, HZ, HB1⟩
  case round =>
    clear HZ HZL HB1
    obtain ⟨i, xs, rfl, HI, HXL, HX, HO, HB⟩ := hrel
    cases gk with
    | zero =>
      have ei : i = ids.length := by have := HI.out; omega
      subst ei
      have exs : xs = ss := List.ext_getElem? (fun j => by
        by_cases h : j < ids.length
        · exact HX.out j h
        · rw [List.getElem?_eq_none (by have := HXL.out; omega), List.getElem?_eq_none (by have := HK.out.1; omega)])
      subst exs
      go_wp2
      go_ret
      exact ⟨_, rfl, HO.out, HB.out⟩
    | succ k1 =>
      have hi : i < ids.length := by have := HI.out; omega
      obtain ⟨id, hid⟩ : ∃ id, ids[i]? = some id := ⟨_, List.getElem?_eq_getElem hi⟩
      obtain ⟨a, b, rs, s, rfl, hra, hrb, hsi⟩ := HK.out.2 i id hid
      obtain ⟨ad, rfl, x1, x2⟩ := at_T99 HR.out (i : Int) (by omega) (by omega)
      rw [rd99 hid, Int.toNat_natCast] at x1 x2
      replace x1 : World.cell? _ (ad.add (i * 2)) = some (.int .u64 (a : Int)) := x1
      replace x2 : World.cell? _ ⟨(ad.add (i * 2)).block, (ad.add (i * 2)).off + 1, none⟩ = some (.int .u64 (b : Int)) := x2
      replace x1 := (HB.out.cell (World.block_lt_of_cell? w _ x1)).trans x1
      replace x2 := (HB.out.cell (World.block_lt_of_cell? w _ x2)).trans x2
      have d0 : 0 ≤ (i : Int) := by omega
      have d1 : (i : Int) < (ids.length : Int) := by omega
      have d2 : decide ((i : Int) < (ids.length : Int)) = true := decide_eq_true d1
      have d3 : decide (i < ids.length) = true := decide_eq_true hi
      have HID := Aside0.mk hid
      have HRA := Aside0.mk hra
      have HRB := Aside0.mk hrb
      have HSI := Aside0.mk hsi
      clear hid hra hrb hsi hi
      go_wp2
      obtain ⟨Wb, hWb⟩ : ∃ Wb, wr.alloc (Obj.cells #[Value.int IntKind.u64 (a : Int), Value.int IntKind.u64 (b : Int)] 99) = Wb := ⟨_, rfl⟩
      rw [hWb]
      have bk : Wb.heap[wr.heap.size]? = some (.cells #[Value.int IntKind.u64 (a : Int), Value.int IntKind.u64 (b : Int)] 99 (0, 0)) := by rw [← hWb]; exact blk_new wr _
      have HBb := Aside0.mk (show Below w.heap.size w Wb by rw [← hWb]; exact below_alloc HB.out _)
      have HOb := Aside0.mk (show kSH.R 27 Wb w.heap.size (fun _ => True) (.slice A1 ids.length c1) xs by rw [← hWb]; exact Kd.R_alloc HO.out _)
      clear hWb HO HB x1 x2
      generalize wr.heap.size = q at bk ⊢
      have p0 : Wb.cell? ⟨q, 0, none⟩ = some (.int .u64 (a : Int)) := blk_cell bk 0
      have p1 : Wb.cell? ⟨q, 1, none⟩ = some (.int .u64 (b : Int)) := blk_cell bk 1
      have hT := HT.out.below HBb.out
      have hal : a < hs.length := by rw [← hT.len]; exact (List.getElem?_eq_some_iff.1 HRA.out).1
      obtain ⟨h, hh⟩ : ∃ h, hs[a]? = some h := ⟨_, List.getElem?_eq_getElem hal⟩
      obtain ⟨rs', hrs', hRow⟩ := hT.row a h hh
      obtain rfl := Option.some.inj (hrs'.symm.trans HRA.out)
      have hbl : b < rs'.length := (List.getElem?_eq_some_iff.1 HRB.out).1
      obtain ⟨gH, cH, eH, _⟩ := kSH_form hT.outer (by omega)
      obtain ⟨gr, cr, rfl, _⟩ := kSH_form hRow (by omega)
      have p2 : Wb.cell? ⟨g, 2, none⟩ = some (.slice (some ⟨gH, 0, none⟩) hs.length cH) := by have := hT.c0.2.2; rw [eH] at this; exact this
      have p3 : Wb.cell? ⟨gH, a, none⟩ = some (.slice (some ⟨gr, 0, none⟩) rs'.length cr) := by have := hT.outer; rw [eH] at this; exact (kSH_cell this hh).1
      obtain ⟨As, ns, cs⟩ := s
      have p4 : Wb.cell? ⟨gr, b, none⟩ = some (.slice As ns cs) := (kSH_cell hRow HRB.out).1
      obtain ⟨gA, cA, eA, hgA⟩ := kSH_form (s := (A1, ids.length, c1)) HOb.out (by have := HXL.out; omega)
      simp only [Prod.mk.injEq] at eA
      obtain ⟨rfl, -, rfl⟩ := eA
      obtain ⟨x, hx⟩ : ∃ x, xs[i]? = some x := ⟨_, List.getElem?_eq_getElem (by have := HXL.out; omega)⟩
      obtain ⟨p5, p6⟩ := kSH_cell HOb.out hx
      have e0 : 0 ≤ (a : Int) := by omega
      have e1 : (a : Int) < (hs.length : Int) := by omega
      have e2 : decide ((a : Int) < (hs.length : Int)) = true := decide_eq_true e1
      have e3 : decide (a < hs.length) = true := decide_eq_true hal
      have e4 : 0 ≤ (b : Int) := by omega
      have e5 : (b : Int) < (rs'.length : Int) := by omega
      have e6 : decide ((b : Int) < (rs'.length : Int)) = true := decide_eq_true e5
      have e7 : decide (b < rs'.length) = true := decide_eq_true hbl
      have HGA := Aside0.mk hgA
      clear hT hal hh hrs' hRow hbl eH hgA hx bk
      go_region
      all_goals go_wp2
      go_roundg k1
      case measure => omega
      case rel => exact ⟨i + 1, xs.set i (As, ns, cs), by first | rfl | (congr 1), ⟨by have := HI.out; omega⟩, ⟨by rw [List.length_set]; exact HXL.out⟩, ⟨fun j hj => by
        by_cases e : j = i
        · subst e
          rw [List.getElem?_set_self (by have := HXL.out; have := HI.out; omega)]; exact HSI.out.symm
        · rw [List.getElem?_set_ne (by omega)]; exact HX.out j (by omega)⟩, ⟨Kd.R_drew (kSH_put HOb.out (As, ns, cs))⟩, ⟨(HBb.out.setCell (p := ⟨gA, i, none⟩) HGA.out _).drew⟩⟩
def foldR_ (F : List Int → List Int → Option (List Int)) : List (List Int) → Option (List Int)
  | [] => none
  | [x] => some x
  | x :: y :: l => (foldR_ F (y :: l)).bind fun t => F x t
theorem foldR_cons {F : List Int → List Int → Option (List Int)} {x : List Int} {l : List (List Int)} (h : l ≠ []) : foldR_ F (x :: l) = (foldR_ F l).bind fun t => F x t := by
  cases l with
  | nil => exact absurd rfl h
  | cons y l => rfl
theorem foldR_some {F : List Int → List Int → Option (List Int)} : ∀ (l : List (List Int)) (r : List Int), foldR_ F l = some r → ∀ j, j < l.length → ∃ t, foldR_ F (l.drop j) = some t
  | [], r, h, j, hj => by simp at hj
  | [x], r, h, j, hj => by
    have : j = 0 := by simp at hj; exact hj
    subst this
    exact ⟨r, h⟩
  | x :: y :: l, r, h, j, hj => by
    cases j with
    | zero => exact ⟨r, h⟩
    | succ j =>
      rw [foldR_] at h
      obtain ⟨t, ht, _⟩ := Option.bind_eq_some_iff.mp h
      exact foldR_some (y :: l) t ht j (by simp at hj ⊢; omega)
theorem methER (a0 a1 a2 a3 a4 a5 : Int) (w : World) : (method 302 82 (.agg #[.int .i64 a0, .int .i64 a1, .int .i64 a2, .int .u64 a3, .int .u64 a4, .int .u64 a5]) "EmptyRoot").run Tryd.prog w = .ok (135, .agg #[.int .i64 a0, .int .i64 a1, .int .i64 a2, .int .u64 a3, .int .u64 a4, .int .u64 a5]) w := by kernel_rfl
set_option maxHeartbeats 16000000 in
set_option maxRecDepth 100000 in
theorem treeHashAt0.calls (k : Nat) (a0 a1 a2 a3 a4 a5 : Int) (tb base g : Nat) (nI : Int) (H : SH) (hs : List SH) (rows : List (List SH)) (val : Nat → Nat → List Int) (r : List Int) (w : World) (T : TreeAt w tb base g (.iface 82 (toyV a0 a1 a2 a3 a4 a5)) nI H hs rows val) (h : impl_toy_EmptyRoot.f k a0 a1 a2 a3 a4 a5 = some r) :
    Calls Tryd.prog 46 #[.pointer (some ⟨g, 0, none⟩), .int .u64 0] w fun e w' => ∃ v, e = .returned v ∧ Kd.R (Kd.int .u8) 5 w' w.heap.size (fun _ => True) v r ∧ Below w.heap.size w w' := by
  have hm := methER a0 a1 a2 a3 a4 a5
  obtain ⟨t0, t1, t2⟩ := T.c0
  have HH := Aside0.mk h
  clear h T t1 t2
  go_enter Tryd.func46, Tryd.ntmps46
  go_wp2_with (fail)
  refine (impl_toy_EmptyRoot.calls k a0 a1 a2 a3 a4 a5 r _ HH.out).mono ?_
  rintro e w1 ⟨v1, rfl, h1, h2⟩
  have H1 := Aside0.mk h1
  have H2 := Aside0.mk h2
  clear h1 h2
  dsimp only
  go_wp2
  go_ret
  exact ⟨_, rfl, H1.out, H2.out⟩
set_option maxHeartbeats 16000000 in
set_option maxRecDepth 100000 in
theorem treeHashAt.calls (k : Nat) (a0 a1 a2 a3 a4 a5 : Int) (tb base g : Nat) (nI : Int) (H : SH) (hs : List SH) (rows : List (List SH)) (val : Nat → Nat → List Int) (m : Int) (ids : List S99) (ss : List SH) (bl : List (List Int)) (r : List Int) (w : World) (hG : Glob w) (hbase : tb ≤ w.heap.size) (T : TreeAt w tb base g (.iface 82 (toyV a0 a1 a2 a3 a4 a5)) nI H hs rows val) (hm0 : ¬ m = 0)
    (hn : compact_RangeNodes.f k 0 m [] = some ids) (hl : ids.length ≤ 100000) (look : Looks ids rows ss) (hb : bl.length = ss.length) (hbt : ∀ (i : Nat) (s : SH) (b : List Int), ss[i]? = some s → bl[i]? = some b → Txt tb w s b) (hf : foldR_ (impl_toy_HashChildren.f k a0 a1 a2 a3 a4 a5) bl = some r) :
    Calls Tryd.prog 46 #[.pointer (some ⟨g, 0, none⟩), .int .u64 m] w fun e w' => ∃ v, e = .returned v ∧ Kd.R (Kd.int .u8) 5 w' tb (fun _ => True) v r ∧ Below w.heap.size w w' := by
  have hm := methHC a0 a1 a2 a3 a4 a5
  have c0 : (m == 0) = false := beq_eq_false_iff_ne.mpr hm0
  have HT := Aside0.mk T
  have HG := Aside0.mk hG
  have HN := Aside0.mk hn
  have HL := Aside0.mk hl
  have HK := Aside0.mk look
  have HBL := Aside0.mk hb
  have HBT := Aside0.mk hbt
  have HF := Aside0.mk hf
  have HBS := Aside0.mk hbase
  clear T hG hn hl look hb hbt hf hm0 hbase
  go_enter Tryd.func46, Tryd.ntmps46
  go_wp2_with (fail)
  refine (compact_RangeNodes.calls k 0 m (fun _ => False) (.slice none 0 0) [] ids w _ HG.out (Below.refl _ _) (Kd.R_nil _ _ _ _ _) HN.out).mono ?_
  rintro e w1 ⟨v1, rfl, h1, h2, _⟩
  obtain ⟨A1, c1, rfl⟩ := Kd.R_slice h1
  obtain ⟨_, h3, h4⟩ := Kd.R_reads' h1
  have HC1 := Aside0.mk h3
  have HR1 := Aside0.mk h4
  have HB1 := Aside0.mk h2
  clear h1 h2 h3 h4
  dsimp only
  go_wp2_with (fail)
  refine (treeGetNodes.calls tb base g _ nI H hs rows val w1 (HT.out.below HB1.out) A1 c1 ids HR1.out HC1.out HL.out ss HK.out).mono ?_
  rintro e w2 ⟨v2, rfl, h1, h2⟩
  have HR2 := Aside0.mk h1
  have HB2 := Aside0.mk (HB1.out.trans (h2.mono HB1.out.size))
  clear h1 h2
  dsimp only
  obtain ⟨M, hM⟩ : ∃ M, bl.length = M + 1 := by
    cases hbl : bl with
    | nil => have := HF.out; rw [hbl] at this; cases this
    | cons x l => exact ⟨l.length, rfl⟩
  have hsM : ss.length = M + 1 := by rw [← HBL.out]; exact hM
  obtain ⟨gS, cS, n2, e2, hn2⟩ : ∃ gS cS n2, v2 = .slice (some ⟨gS, 0, none⟩) n2 cS ∧ n2 = M + 1 := by
    obtain ⟨a, b, h, _⟩ := Kd.R_form HR2.out (by omega)
    exact ⟨a, b, _, h, hsM⟩
  subst e2 hn2
  obtain ⟨⟨Aq, nq, cq⟩, hq⟩ : ∃ s, ss[M]? = some s := ⟨_, List.getElem?_eq_getElem (by omega)⟩
  obtain ⟨x1, _⟩ := kSH_cell HR2.out hq
  replace x1 : World.cell? _ _ = some (.slice Aq nq cq) := x1
  obtain ⟨bq, hbq⟩ : ∃ b, bl[M]? = some b := ⟨_, List.getElem?_eq_getElem (by omega)⟩
  have HX0 := Aside0.mk ((HBT.out M _ bq hq hbq).pres (Pres5.below HB2.out))
  have hdM : foldR_ (impl_toy_HashChildren.f k a0 a1 a2 a3 a4 a5) (bl.drop M) = some bq := by
    rw [List.drop_eq_getElem_cons (by omega), List.drop_of_length_le (by omega)]
    rw [List.getElem?_eq_getElem (by omega)] at hbq
    rw [foldR_, Option.some.inj hbq]
  have HD0 := Aside0.mk hdM
  have HMB := Aside0.mk hM
  have hMl : (M : Int) ≤ 100000 := by have := HK.out.1; have := HL.out; omega
  have c1 : (M : Int) < (M : Int) + 1 := by omega
  have c2 : decide ((M : Int) < (M : Int) + 1) = true := decide_eq_true c1
  have c3 : 0 ≤ (M : Int) := by omega
  clear hM hsM hq hbq hdM
  go_wp2
  try simp only [Act.put, List.setIfInBounds_toArray, List.set_cons_zero, List.set_cons_succ]
  go_loopg [6, 7] M (fun kq v6 v7 w' => ∃ (s : SH) (b : List Int), v6 = .slice s.1 s.2.1 s.2.2 ∧ v7 = .int .i64 ((kq : Int) - 1) ∧ Aside0 (kq ≤ M) ∧ Aside0 (Txt tb w' s b) ∧ Aside0 (foldR_ (impl_toy_HashChildren.f k a0 a1 a2 a3 a4 a5) (bl.drop kq) = some b) ∧ Aside0 (Rw w' w1.heap.size (.slice (some ⟨gS, 0, none⟩) (M + 1) cS) ss) ∧ Aside0 (Below w.heap.size w w'))
  case atStart => exact ⟨(Aq, nq, cq), bq, rfl, by congr 1; omega, ⟨Nat.le_refl _⟩, HX0, HD0, HR2, HB2⟩
  case round =>
    clear HX0 HD0 HR2 HB2 x1
    obtain ⟨⟨As, ns, cs⟩, b, rfl, rfl, HKM, HX, HD, HR2, HB⟩ := hrel
    cases gk with
    | zero =>
      have hd := HD.out
      rw [List.drop_zero] at hd
      obtain rfl := Option.some.inj (hd.symm.trans HF.out)
      clear hd
      go_wp2
      go_ret
      exact ⟨_, rfl, HX.out, HB.out⟩
    | succ j =>
      obtain ⟨rfl, hx2, hx3⟩ := HX.out.read
      obtain ⟨⟨At, nt, ct⟩, ht⟩ : ∃ s, ss[j]? = some s := ⟨_, List.getElem?_eq_getElem (by have := HKM.out; have := HMB.out; have := HBL.out; omega)⟩
      obtain ⟨bt, hbt⟩ : ∃ b, bl[j]? = some b := ⟨_, List.getElem?_eq_getElem (by have := HKM.out; have := HMB.out; omega)⟩
      have hT := (HBT.out j _ bt ht hbt).pres (Pres5.below HB.out)
      obtain ⟨rfl, hy2, hy3⟩ := hT.read
      obtain ⟨x1, _⟩ := kSH_cell HR2.out ht
      replace x1 : World.cell? _ _ = some (.slice At bt.length ct) := x1
      obtain ⟨t, hft⟩ := foldR_some bl r HF.out j (by have := HKM.out; have := HMB.out; omega)
      have hcall : impl_toy_HashChildren.f k a0 a1 a2 a3 a4 a5 bt b = some t := by
        have h1 := hft
        rw [List.drop_eq_getElem_cons (by have := HKM.out; have := HMB.out; omega), foldR_cons (by
          intro h
          have := congrArg List.length h
          rw [List.length_drop, List.length_nil] at this
          have := HKM.out; have := HMB.out
          omega), HD.out, Option.bind_some] at h1
        rw [List.getElem?_eq_getElem (by have := HKM.out; have := HMB.out; omega)] at hbt
        rw [Option.some.inj hbt] at h1
        exact h1
      have hTT := HT.out.below HB.out
      obtain ⟨t0, _, _⟩ := hTT.c0
      have d0 : 0 ≤ (j : Int) := by omega
      have d1 : (j : Int) < (M : Int) + 1 := by have := HKM.out; omega
      have d2 : decide ((j : Int) < (M : Int) + 1) = true := decide_eq_true d1
      have d3 : decide (j < M + 1) = true := decide_eq_true (by omega)
      have HY3 := Aside0.mk hy3
      have HX3 := Aside0.mk hx3
      have HFT := Aside0.mk hft
      have HC := Aside0.mk hcall
      clear ht hbt hT hy3 hx3 hft hcall hTT
      rw [show (((j + 1 : Nat) : Int) - 1) = (j : Int) by omega]
      go_wp2
      go_region_with (go_at_call 50; refine (impl_toy_HashChildren.calls k a0 a1 a2 a3 a4 a5 At ct bt As cs b t _ ?s1 hy2 ?s3 hx2 HC.out).mono ?_; (case s1 => repeat (first | exact HY3.out | (refine Kd.C_drewN ?_ _) | (refine Kd.C_drew ?_))); (case s3 => repeat (first | exact HX3.out | (refine Kd.C_drewN ?_ _) | (refine Kd.C_drew ?_))); rintro e w4 ⟨v4, rfl, hR4, hb4⟩; have HR4 := Aside0.mk hR4; have HB4 := Aside0.mk (show Below wr.heap.size wr w4 from Below.trans (by repeat (first | exact Below.refl _ _ | apply Below.drew | apply pw_below_drewN)) hb4); clear hR4 hb4)
      all_goals
        clear x1 t0 hx2 hy2
        obtain ⟨⟨A4, n4, c4⟩, e4⟩ := kSH_val' HR4.out
        subst e4
        go_step
        simp [Act.put]
        go_step
        go_wp2
        go_roundg j
        case measure => omega
        case rel => exact ⟨(A4, n4, c4), t, rfl, by first | rfl | (congr 1), ⟨by have := HKM.out; omega⟩, ⟨Txt.of_R HR4.out (Nat.le_trans HBS.out HB.out.size)⟩, HFT, ⟨Kd.R_below HR2.out HB4.out⟩, ⟨HB.out.trans (HB4.out.mono HB.out.size)⟩⟩
end Go.Proofs.YtielnphmcaecdaaDoor.PAll
namespace Go.Proofs.YtielnphmcaecdaaDoor.PAll
open Go.IntWalk Go.RowKit Go.Proofs.YtielnphmcaecdaaDoorW.PrintWords Go.Proofs.YtielnphmcaecdaaDoorW.PrintLast Go.Proofs.YtielnphmcaecdaaDoorW.PrintMore
set_option linter.unusedVariables false
theorem heads_C {w : World} {base B : Nat} {A : Option Addr} {n c : Nat} {ok : Nat → Prop} {hs : List SH} {out : List (List Int)} (h : kSH.R 27 w base ok (.slice A n c) hs) (hl : out.length ≤ hs.length)
    (ht : ∀ (j : Nat) (s : SH) (b : List Int), hs[j]? = some s → out[j]? = some b → Txt B w s b) : Kd.C (Kd.slice 5 (Kd.int .u8)) w A out.length out := by
  obtain ⟨h1, h2, h3⟩ := Kd.R_reads' h
  refine ⟨rfl, Nat.le_trans hl h3.2.1, fun hp => ?_⟩
  obtain ⟨ad, e, hc⟩ := h3.2.2 (by omega)
  refine ⟨ad, e, fun j b hj => ?_⟩
  have hjl : j < hs.length := by have := (List.getElem?_eq_some_iff.1 hj).1; omega
  obtain ⟨⟨As, ns, c1⟩, hsj⟩ : ∃ s, hs[j]? = some s := ⟨_, List.getElem?_eq_getElem hjl⟩
  obtain ⟨cs, k1, k2, k3⟩ := hc j _ hsj
  obtain ⟨t1, t2, t3⟩ := (ht j _ b hsj hj).read
  refine ⟨cs, k1, ⟨As, c1, ?_, t2, t3⟩, k3⟩
  rw [← t1]; exact k2
theorem nxt_ {i : Nat} (h : i < 9223372036854775807) : wrap64 ((i : Int) + 1) = ((i + 1 : Nat) : Int) := by unfold wrap64; omega
end Go.Proofs.YtielnphmcaecdaaDoor.PAll
