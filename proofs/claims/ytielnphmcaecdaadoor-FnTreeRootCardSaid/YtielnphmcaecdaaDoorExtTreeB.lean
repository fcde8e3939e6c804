import Derived.Test.YtielnphmcaecdaaDoorTreeMem
import Derived.Test.YtielnphmcaecdaaDoorPAllx4
import Derived.Test.YtielnphmcaecdaaDoorMath
import Derived.Outline
import Derived.Deep.QuietTactic
import Derived.BigQuiet
import Derived.Deep.RegionWith
import Derived.Deep.RegionLaw
import Derived.IntWalk
namespace Go.Proofs.YtielnphmcaecdaaDoor.PAll
open Go.RowKit Go.Proofs.YtielnphmcaecdaaDoor.Mth Go.Proofs.YtielnphmcaecdaaDoorW.PrintWords Go.Proofs.YtielnphmcaecdaaDoorW.PrintLast Go.Proofs.YtielnphmcaecdaaDoorW.PrintMore
set_option linter.unusedVariables false
/-- The texts that are found at some nodes. -/
def Looks (ids : List S99) (rows : List (List SH)) (ss : List SH) : Prop :=
  ss.length = ids.length ∧ ∀ (i : Nat) (id : S99), ids[i]? = some id → ∃ (a b : Nat) (rs : List SH) (s : SH), id = ⟨(a : Int), (b : Int)⟩ ∧ rows[a]? = some rs ∧ rs[b]? = some s ∧ ss[i]? = some s
theorem rd99 {ids : List S99} {i : Nat} {id : S99} (h : ids[i]? = some id) : rd_T99 ids (i : Int) = id := by
  unfold rd_T99
  rw [Int.toNat_natCast, List.getD_eq_getElem?_getD, h]; rfl
theorem kSH_put {e : Nat} {W : World} {base g n cap : Nat} {ok : Nat → Prop} {xs : List SH} {i : Nat} (h : kSH.R e W base ok (.slice (some ⟨g, 0, none⟩) n cap) xs) (x : SH) : kSH.R e (W.setCell ⟨g, i, none⟩ (shE x)) base ok (.slice (some ⟨g, 0, none⟩) n cap) (xs.set i x) := by
  have := Kd.R_putn (enc := shE) h (i : Int) x
  rw [Int.toNat_natCast] at this
  exact this
set_option maxHeartbeats 16000000 in
set_option maxRecDepth 100000 in
theorem treeGetNodes.calls (tb base g : Nat) (hv : Value) (nI : Int) (H : SH) (hs : List SH) (rows : List (List SH)) (val : Nat → Nat → List Int) (w : World) (T : TreeAt w tb base g hv nI H hs rows val) (A : Option Addr) (c : Nat) (ids : List S99) (hr : Kd.C k99 w A ids.length ids) (hc : ids.length ≤ c) (hl : ids.length ≤ 100000) (ss : List SH) (look : Looks ids rows ss) :
    Calls Tryd.prog 83 #[.pointer (some ⟨g, 0, none⟩), .slice A ids.length c] w fun e w' => ∃ v, e = .returned v ∧ Rw w' w.heap.size v ss ∧ Below w.heap.size w w' := by
  have HT := Aside0.mk T
  have HR := Aside0.mk hr
  have HC := Aside0.mk hc
  have HLL := Aside0.mk hl
  have HK := Aside0.mk look
  have hl0 : (ids.length : Int) ≤ 100000 := by omega
  clear T hr hc hl look
  go_enter Tryd.func83, Tryd.ntmps83
  go_wp2_with (first | ((with_reducible refine gate_dst (N := 10) rfl ?_); refine Kd.R_make kSH (w0 := w) w.heap.size 27 rfl (N := 10) rfl 25 _ _ rfl (ids.length : Int) rfl rfl Tryd.underlying25 (.slice none 0 0) 24 info27 rfl (by decide) (by omega) (none, 0, 0) (ok := fun _ => True) (okp := fun _ => True) rfl (fun _ hk => hk) trivial (by omega) (by omega) (Below.refl _ _) (Nat.le_refl _) ?_; intro v1 w1 ho1 hb1 hg1 hn1; have HO1 := Aside0.mk ho1; have HB1 := Aside0.mk hb1; clear ho1 hb1 hg1 hn1; obtain ⟨A1, c1, e1⟩ := Kd.R_slice HO1.out; subst e1))
  try simp only [Act.put, List.setIfInBounds_toArray, List.set_cons_zero, List.set_cons_succ]
  obtain ⟨zs, hzs⟩ : ∃ zs : List SH, zs = List.replicate (ids.length : Int).toNat ((none, 0, 0) : SH) := ⟨_, rfl⟩
  have hzl : zs.length = ids.length := by rw [hzs, List.length_replicate, Int.toNat_natCast]
  have HZ : Aside0 (kSH.R 27 w1 w.heap.size (fun _ => True) (.slice A1 ids.length c1) zs) := ⟨by rw [hzs]; have := HO1.out; rw [List.length_replicate, Int.toNat_natCast] at this; exact this⟩
  have HZL := Aside0.mk hzl
  clear HO1 hzs hzl
  go_loopg [13] ids.length (fun kq v13 w' => ∃ (i : Nat) (xs : List SH), v13 = .int .i64 (i : Int) ∧ Aside0 (i + kq = ids.length) ∧ Aside0 (xs.length = ids.length) ∧ Aside0 (∀ j, j < i → xs[j]? = ss[j]?) ∧ Aside0 (kSH.R 27 w' w.heap.size (fun _ => True) (.slice A1 ids.length c1) xs) ∧ Aside0 (Below w.heap.size w w'))
  case atStart => exact ⟨0, zs, rfl, ⟨by omega⟩, HZL, ⟨fun j hj => absurd hj (by omega)⟩, HZ, HB1⟩
  case round =>
    clear HZ HZL HB1
    obtain ⟨i, xs, rfl, HI, HXL, HX, HO, HB⟩ := hrel
    cases gk with
    | zero =>
      have ei : i = ids.length := by have := HI.out; omega
      subst ei
      have exs : xs = ss := List.ext_getElem? (fun j => by
        by_cases h : j < ids.length
        · exact HX.out j h
        · rw [List.getElem?_eq_none (by have := HXL.out; omega), List.getElem?_eq_none (by have := HK.out.1; omega)])
      subst exs
      go_wp2
      go_ret
      exact ⟨_, rfl, HO.out, HB.out⟩
    | succ k1 =>
      have hi : i < ids.length := by have := HI.out; omega
      obtain ⟨id, hid⟩ : ∃ id, ids[i]? = some id := ⟨_, List.getElem?_eq_getElem hi⟩
      obtain ⟨a, b, rs, s, rfl, hra, hrb, hsi⟩ := HK.out.2 i id hid
      obtain ⟨ad, rfl, x1, x2⟩ := at_T99 HR.out (i : Int) (by omega) (by omega)
      rw [rd99 hid, Int.toNat_natCast] at x1 x2
      replace x1 : World.cell? _ (ad.add (i * 2)) = some (.int .u64 (a : Int)) := x1
      replace x2 : World.cell? _ ⟨(ad.add (i * 2)).block, (ad.add (i * 2)).off + 1, none⟩ = some (.int .u64 (b : Int)) := x2
      replace x1 := (HB.out.cell (World.block_lt_of_cell? w _ x1)).trans x1
      replace x2 := (HB.out.cell (World.block_lt_of_cell? w _ x2)).trans x2
      have d0 : 0 ≤ (i : Int) := by omega
      have d1 : (i : Int) < (ids.length : Int) := by omega
      have d2 : decide ((i : Int) < (ids.length : Int)) = true := decide_eq_true d1
      have d3 : decide (i < ids.length) = true := decide_eq_true hi
      have HID := Aside0.mk hid
      have HRA := Aside0.mk hra
      have HRB := Aside0.mk hrb
      have HSI := Aside0.mk hsi
      clear hid hra hrb hsi hi
      go_wp2
      obtain ⟨Wb, hWb⟩ : ∃ Wb, wr.alloc (Obj.cells #[Value.int IntKind.u64 (a : Int), Value.int IntKind.u64 (b : Int)] 99) = Wb := ⟨_, rfl⟩
      rw [hWb]
      have bk : Wb.heap[wr.heap.size]? = some (.cells #[Value.int IntKind.u64 (a : Int), Value.int IntKind.u64 (b : Int)] 99 (0, 0)) := by rw [← hWb]; exact blk_new wr _
      have HBb := Aside0.mk (show Below w.heap.size w Wb by rw [← hWb]; exact below_alloc HB.out _)
      have HOb := Aside0.mk (show kSH.R 27 Wb w.heap.size (fun _ => True) (.slice A1 ids.length c1) xs by rw [← hWb]; exact Kd.R_alloc HO.out _)
      clear hWb HO HB x1 x2
      generalize wr.heap.size = q at bk ⊢
      have p0 : Wb.cell? ⟨q, 0, none⟩ = some (.int .u64 (a : Int)) := blk_cell bk 0
      have p1 : Wb.cell? ⟨q, 1, none⟩ = some (.int .u64 (b : Int)) := blk_cell bk 1
      have hT := HT.out.below HBb.out
      have hal : a < hs.length := by rw [← hT.len]; exact (List.getElem?_eq_some_iff.1 HRA.out).1
      obtain ⟨h, hh⟩ : ∃ h, hs[a]? = some h := ⟨_, List.getElem?_eq_getElem hal⟩
      obtain ⟨rs', hrs', hRow⟩ := hT.row a h hh
      obtain rfl := Option.some.inj (hrs'.symm.trans HRA.out)
      have hbl : b < rs'.length := (List.getElem?_eq_some_iff.1 HRB.out).1
      obtain ⟨gH, cH, eH, _⟩ := kSH_form hT.outer (by omega)
      obtain ⟨gr, cr, rfl, _⟩ := kSH_form hRow (by omega)
      have p2 : Wb.cell? ⟨g, 2, none⟩ = some (.slice (some ⟨gH, 0, none⟩) hs.length cH) := by have := hT.c0.2.2; rw [eH] at this; exact this
      have p3 : Wb.cell? ⟨gH, a, none⟩ = some (.slice (some ⟨gr, 0, none⟩) rs'.length cr) := by have := hT.outer; rw [eH] at this; exact (kSH_cell this hh).1
      obtain ⟨As, ns, cs⟩ := s
      have p4 : Wb.cell? ⟨gr, b, none⟩ = some (.slice As ns cs) := (kSH_cell hRow HRB.out).1
      obtain ⟨gA, cA, eA, hgA⟩ := kSH_form (s := (A1, ids.length, c1)) HOb.out (by have := HXL.out; omega)
      simp only [Prod.mk.injEq] at eA
      obtain ⟨rfl, -, rfl⟩ := eA
      obtain ⟨x, hx⟩ : ∃ x, xs[i]? = some x := ⟨_, List.getElem?_eq_getElem (by have := HXL.out; omega)⟩
      obtain ⟨p5, p6⟩ := kSH_cell HOb.out hx
      have e0 : 0 ≤ (a : Int) := by omega
      have e1 : (a : Int) < (hs.length : Int) := by omega
      have e2 : decide ((a : Int) < (hs.length : Int)) = true := decide_eq_true e1
      have e3 : decide (a < hs.length) = true := decide_eq_true hal
      have e4 : 0 ≤ (b : Int) := by omega
      have e5 : (b : Int) < (rs'.length : Int) := by omega
      have e6 : decide ((b : Int) < (rs'.length : Int)) = true := decide_eq_true e5
      have e7 : decide (b < rs'.length) = true := decide_eq_true hbl
      have HGA := Aside0.mk hgA
      clear hT hal hh hrs' hRow hbl eH hgA hx bk
      go_region
      all_goals go_wp2
      go_roundg k1
      case measure => omega
      case rel => exact ⟨i + 1, xs.set i (As, ns, cs), by first | rfl | (congr 1), ⟨by have := HI.out; omega⟩, ⟨by rw [List.length_set]; exact HXL.out⟩, ⟨fun j hj => by
        by_cases e : j = i
        · subst e
          rw [List.getElem?_set_self (by have := HXL.out; have := HI.out; omega)]; exact HSI.out.symm
        · rw [List.getElem?_set_ne (by omega)]; exact HX.out j (by omega)⟩, ⟨Kd.R_drew (kSH_put HOb.out (As, ns, cs))⟩, ⟨(HBb.out.setCell (p := ⟨gA, i, none⟩) HGA.out _).drew⟩⟩
/-- Texts put together from right to left. -/
def foldR_ (F : List Int → List Int → Option (List Int)) : List (List Int) → Option (List Int)
  | [] => none
  | [x] => some x
  | x :: y :: l => (foldR_ F (y :: l)).bind fun t => F x t
theorem foldR_cons {F : List Int → List Int → Option (List Int)} {x : List Int} {l : List (List Int)} (h : l ≠ []) : foldR_ F (x :: l) = (foldR_ F l).bind fun t => F x t := by
  cases l with
  | nil => exact absurd rfl h
  | cons y l => rfl
theorem foldR_some {F : List Int → List Int → Option (List Int)} : ∀ (l : List (List Int)) (r : List Int), foldR_ F l = some r → ∀ j, j < l.length → ∃ t, foldR_ F (l.drop j) = some t
  | [], r, h, j, hj => by simp at hj
  | [x], r, h, j, hj => by
    have : j = 0 := by simp at hj; exact hj
    subst this
    exact ⟨r, h⟩
  | x :: y :: l, r, h, j, hj => by
    cases j with
    | zero => exact ⟨r, h⟩
    | succ j =>
      rw [foldR_] at h
      obtain ⟨t, ht, _⟩ := Option.bind_eq_some_iff.mp h
      exact foldR_some (y :: l) t ht j (by simp at hj ⊢; omega)
theorem methER (a0 a1 a2 a3 a4 a5 : Int) (w : World) : (method 302 82 (.agg #[.int .i64 a0, .int .i64 a1, .int .i64 a2, .int .u64 a3, .int .u64 a4, .int .u64 a5]) "EmptyRoot").run Tryd.prog w = .ok (135, .agg #[.int .i64 a0, .int .i64 a1, .int .i64 a2, .int .u64 a3, .int .u64 a4, .int .u64 a5]) w := by kernel_rfl
set_option maxHeartbeats 16000000 in
set_option maxRecDepth 100000 in
/-- The root of no leaves. -/
theorem treeHashAt0.calls (k : Nat) (a0 a1 a2 a3 a4 a5 : Int) (tb base g : Nat) (nI : Int) (H : SH) (hs : List SH) (rows : List (List SH)) (val : Nat → Nat → List Int) (r : List Int) (w : World) (T : TreeAt w tb base g (.iface 82 (toyV a0 a1 a2 a3 a4 a5)) nI H hs rows val) (h : impl_toy_EmptyRoot.f k a0 a1 a2 a3 a4 a5 = some r) :
    Calls Tryd.prog 46 #[.pointer (some ⟨g, 0, none⟩), .int .u64 0] w fun e w' => ∃ v, e = .returned v ∧ Kd.R (Kd.int .u8) 5 w' w.heap.size (fun _ => True) v r ∧ Below w.heap.size w w' := by
  have hm := methER a0 a1 a2 a3 a4 a5
  obtain ⟨t0, t1, t2⟩ := T.c0
  have HH := Aside0.mk h
  clear h T t1 t2
  go_enter Tryd.func46, Tryd.ntmps46
  go_wp2_with (fail)
  refine (impl_toy_EmptyRoot.calls k a0 a1 a2 a3 a4 a5 r _ HH.out).mono ?_
  rintro e w1 ⟨v1, rfl, h1, h2⟩
  have H1 := Aside0.mk h1
  have H2 := Aside0.mk h2
  clear h1 h2
  dsimp only
  go_wp2
  go_ret
  exact ⟨_, rfl, H1.out, H2.out⟩
set_option maxHeartbeats 16000000 in
set_option maxRecDepth 100000 in
/-- The root of some leaves. -/
theorem treeHashAt.calls (k : Nat) (a0 a1 a2 a3 a4 a5 : Int) (tb base g : Nat) (nI : Int) (H : SH) (hs : List SH) (rows : List (List SH)) (val : Nat → Nat → List Int) (m : Int) (ids : List S99) (ss : List SH) (bl : List (List Int)) (r : List Int) (w : World) (hG : Glob w) (hbase : tb ≤ w.heap.size) (T : TreeAt w tb base g (.iface 82 (toyV a0 a1 a2 a3 a4 a5)) nI H hs rows val) (hm0 : ¬ m = 0)
    (hn : compact_RangeNodes.f k 0 m [] = some ids) (hl : ids.length ≤ 100000) (look : Looks ids rows ss) (hb : bl.length = ss.length) (hbt : ∀ (i : Nat) (s : SH) (b : List Int), ss[i]? = some s → bl[i]? = some b → Txt tb w s b) (hf : foldR_ (impl_toy_HashChildren.f k a0 a1 a2 a3 a4 a5) bl = some r) :
    Calls Tryd.prog 46 #[.pointer (some ⟨g, 0, none⟩), .int .u64 m] w fun e w' => ∃ v, e = .returned v ∧ Kd.R (Kd.int .u8) 5 w' tb (fun _ => True) v r ∧ Below w.heap.size w w' := by
  have hm := methHC a0 a1 a2 a3 a4 a5
  have c0 : (m == 0) = false := beq_eq_false_iff_ne.mpr hm0
  have HT := Aside0.mk T
  have HG := Aside0.mk hG
  have HN := Aside0.mk hn
  have HL := Aside0.mk hl
  have HK := Aside0.mk look
  have HBL := Aside0.mk hb
  have HBT := Aside0.mk hbt
  have HF := Aside0.mk hf
  have HBS := Aside0.mk hbase
  clear T hG hn hl look hb hbt hf hm0 hbase
  go_enter Tryd.func46, Tryd.ntmps46
  go_wp2_with (fail)
  refine (compact_RangeNodes.calls k 0 m (fun _ => False) (.slice none 0 0) [] ids w _ HG.out (Below.refl _ _) (Kd.R_nil _ _ _ _ _) HN.out).mono ?_
  rintro e w1 ⟨v1, rfl, h1, h2, _⟩
  obtain ⟨A1, c1, rfl⟩ := Kd.R_slice h1
  obtain ⟨_, h3, h4⟩ := Kd.R_reads' h1
  have HC1 := Aside0.mk h3
  have HR1 := Aside0.mk h4
  have HB1 := Aside0.mk h2
  clear h1 h2 h3 h4
  dsimp only
  go_wp2_with (fail)
  refine (treeGetNodes.calls tb base g _ nI H hs rows val w1 (HT.out.below HB1.out) A1 c1 ids HR1.out HC1.out HL.out ss HK.out).mono ?_
  rintro e w2 ⟨v2, rfl, h1, h2⟩
  have HR2 := Aside0.mk h1
  have HB2 := Aside0.mk (HB1.out.trans (h2.mono HB1.out.size))
  clear h1 h2
  dsimp only
  obtain ⟨M, hM⟩ : ∃ M, bl.length = M + 1 := by
    cases hbl : bl with
    | nil => have := HF.out; rw [hbl] at this; cases this
    | cons x l => exact ⟨l.length, rfl⟩
  have hsM : ss.length = M + 1 := by rw [← HBL.out]; exact hM
  obtain ⟨gS, cS, n2, e2, hn2⟩ : ∃ gS cS n2, v2 = .slice (some ⟨gS, 0, none⟩) n2 cS ∧ n2 = M + 1 := by
    obtain ⟨a, b, h, _⟩ := Kd.R_form HR2.out (by omega)
    exact ⟨a, b, _, h, hsM⟩
  subst e2 hn2
  obtain ⟨⟨Aq, nq, cq⟩, hq⟩ : ∃ s, ss[M]? = some s := ⟨_, List.getElem?_eq_getElem (by omega)⟩
  obtain ⟨x1, _⟩ := kSH_cell HR2.out hq
  replace x1 : World.cell? _ _ = some (.slice Aq nq cq) := x1
  obtain ⟨bq, hbq⟩ : ∃ b, bl[M]? = some b := ⟨_, List.getElem?_eq_getElem (by omega)⟩
  have HX0 := Aside0.mk ((HBT.out M _ bq hq hbq).pres (Pres5.below HB2.out))
  have hdM : foldR_ (impl_toy_HashChildren.f k a0 a1 a2 a3 a4 a5) (bl.drop M) = some bq := by
    rw [List.drop_eq_getElem_cons (by omega), List.drop_of_length_le (by omega)]
    rw [List.getElem?_eq_getElem (by omega)] at hbq
    rw [foldR_, Option.some.inj hbq]
  have HD0 := Aside0.mk hdM
  have HMB := Aside0.mk hM
  have hMl : (M : Int) ≤ 100000 := by have := HK.out.1; have := HL.out; omega
  have c1 : (M : Int) < (M : Int) + 1 := by omega
  have c2 : decide ((M : Int) < (M : Int) + 1) = true := decide_eq_true c1
  have c3 : 0 ≤ (M : Int) := by omega
  clear hM hsM hq hbq hdM
  go_wp2
  try simp only [Act.put, List.setIfInBounds_toArray, List.set_cons_zero, List.set_cons_succ]
  go_loopg [6, 7] M (fun kq v6 v7 w' => ∃ (s : SH) (b : List Int), v6 = .slice s.1 s.2.1 s.2.2 ∧ v7 = .int .i64 ((kq : Int) - 1) ∧ Aside0 (kq ≤ M) ∧ Aside0 (Txt tb w' s b) ∧ Aside0 (foldR_ (impl_toy_HashChildren.f k a0 a1 a2 a3 a4 a5) (bl.drop kq) = some b) ∧ Aside0 (Rw w' w1.heap.size (.slice (some ⟨gS, 0, none⟩) (M + 1) cS) ss) ∧ Aside0 (Below w.heap.size w w'))
  case atStart => exact ⟨(Aq, nq, cq), bq, rfl, by congr 1; omega, ⟨Nat.le_refl _⟩, HX0, HD0, HR2, HB2⟩
  case round =>
    clear HX0 HD0 HR2 HB2 x1
    obtain ⟨⟨As, ns, cs⟩, b, rfl, rfl, HKM, HX, HD, HR2, HB⟩ := hrel
    cases gk with
    | zero =>
      have hd := HD.out
      rw [List.drop_zero] at hd
      obtain rfl := Option.some.inj (hd.symm.trans HF.out)
      clear hd
      go_wp2
      go_ret
      exact ⟨_, rfl, HX.out, HB.out⟩
    | succ j =>
      obtain ⟨rfl, hx2, hx3⟩ := HX.out.read
      obtain ⟨⟨At, nt, ct⟩, ht⟩ : ∃ s, ss[j]? = some s := ⟨_, List.getElem?_eq_getElem (by have := HKM.out; have := HMB.out; have := HBL.out; omega)⟩
      obtain ⟨bt, hbt⟩ : ∃ b, bl[j]? = some b := ⟨_, List.getElem?_eq_getElem (by have := HKM.out; have := HMB.out; omega)⟩
      have hT := (HBT.out j _ bt ht hbt).pres (Pres5.below HB.out)
      obtain ⟨rfl, hy2, hy3⟩ := hT.read
      obtain ⟨x1, _⟩ := kSH_cell HR2.out ht
      replace x1 : World.cell? _ _ = some (.slice At bt.length ct) := x1
      obtain ⟨t, hft⟩ := foldR_some bl r HF.out j (by have := HKM.out; have := HMB.out; omega)
      have hcall : impl_toy_HashChildren.f k a0 a1 a2 a3 a4 a5 bt b = some t := by
        have h1 := hft
        rw [List.drop_eq_getElem_cons (by have := HKM.out; have := HMB.out; omega), foldR_cons (by
          intro h
          have := congrArg List.length h
          rw [List.length_drop, List.length_nil] at this
          have := HKM.out; have := HMB.out
          omega), HD.out, Option.bind_some] at h1
        rw [List.getElem?_eq_getElem (by have := HKM.out; have := HMB.out; omega)] at hbt
        rw [Option.some.inj hbt] at h1
        exact h1
      have hTT := HT.out.below HB.out
      obtain ⟨t0, _, _⟩ := hTT.c0
      have d0 : 0 ≤ (j : Int) := by omega
      have d1 : (j : Int) < (M : Int) + 1 := by have := HKM.out; omega
      have d2 : decide ((j : Int) < (M : Int) + 1) = true := decide_eq_true d1
      have d3 : decide (j < M + 1) = true := decide_eq_true (by omega)
      have HY3 := Aside0.mk hy3
      have HX3 := Aside0.mk hx3
      have HFT := Aside0.mk hft
      have HC := Aside0.mk hcall
      clear ht hbt hT hy3 hx3 hft hcall hTT
      rw [show (((j + 1 : Nat) : Int) - 1) = (j : Int) by omega]
      go_wp2
      go_region_with (go_at_call 50; refine (impl_toy_HashChildren.calls k a0 a1 a2 a3 a4 a5 At ct bt As cs b t _ ?s1 hy2 ?s3 hx2 HC.out).mono ?_; (case s1 => repeat (first | exact HY3.out | (refine Kd.C_drewN ?_ _) | (refine Kd.C_drew ?_))); (case s3 => repeat (first | exact HX3.out | (refine Kd.C_drewN ?_ _) | (refine Kd.C_drew ?_))); rintro e w4 ⟨v4, rfl, hR4, hb4⟩; have HR4 := Aside0.mk hR4; have HB4 := Aside0.mk (show Below wr.heap.size wr w4 from Below.trans (by repeat (first | exact Below.refl _ _ | apply Below.drew | apply pw_below_drewN)) hb4); clear hR4 hb4)
      all_goals
        clear x1 t0 hx2 hy2
        obtain ⟨⟨A4, n4, c4⟩, e4⟩ := kSH_val' HR4.out
        subst e4
        go_step
        simp [Act.put]
        go_step
        go_wp2
        go_roundg j
        case measure => omega
        case rel => exact ⟨(A4, n4, c4), t, rfl, by first | rfl | (congr 1), ⟨by have := HKM.out; omega⟩, ⟨Txt.of_R HR4.out (Nat.le_trans HBS.out HB.out.size)⟩, HFT, ⟨Kd.R_below HR2.out HB4.out⟩, ⟨HB.out.trans (HB4.out.mono HB.out.size)⟩⟩
end Go.Proofs.YtielnphmcaecdaaDoor.PAll
