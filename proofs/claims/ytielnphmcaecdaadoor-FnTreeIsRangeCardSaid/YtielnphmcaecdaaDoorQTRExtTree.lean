-- Written by a program of this session (wip/tools)
import Derived.Test.YtielnphmcaecdaaDoorQTRExtRangeG
import Derived.Test.YtielnphmcaecdaaDoorQTRExtTreeA
import Derived.Test.YtielnphmcaecdaaDoorQTRExtRehash
namespace Go.Proofs.YtielnphmcaecdaaDoor.PAll
open Go.IntWalk Go.RowKit Go.Proofs.YtielnphmcaecdaaDoor.Num Go.Proofs.YtielnphmcaecdaaDoor.Mth Go.Proofs.YtielnphmcaecdaaDoorW.PrintWords Go.Proofs.YtielnphmcaecdaaDoorW.PrintLast Go.Proofs.YtielnphmcaecdaaDoorW.PrintMore
set_option linter.unusedVariables false
set_option linter.unusedSimpArgs false
def rseed (F : List Int → List Int → Option (List Int)) (xs : List (List Int)) (M : Nat) : Nat → Option (List Int)
  | 0 => some (xs.getD M [])
  | i + 1 => (rseed F xs M i).bind fun t => F (xs.getD (M - 1 - i) []) t
theorem rseed_some {F : List Int → List Int → Option (List Int)} {xs : List (List Int)} {M : Nat} : ∀ (T : Nat) (r : List Int), rseed F xs M T = some r → ∀ t, t ≤ T → ∃ s, rseed F xs M t = some s
  | 0, r, h, t, ht => by
    obtain rfl : t = 0 := by omega
    exact ⟨r, h⟩
  | T + 1, r, h, t, ht => by
    by_cases e : t = T + 1
    · subst e; exact ⟨r, h⟩
    · rw [rseed] at h
      obtain ⟨s, hs, _⟩ := Option.bind_eq_some_iff.mp h
      exact rseed_some T s hs t (by omega)
def rsOf (F : List Int → List Int → Option (List Int)) (xs : List (List Int)) (M t : Nat) : List Int := (rseed F xs M t).getD []
theorem rseed_of {F : List Int → List Int → Option (List Int)} {xs : List (List Int)} {M T : Nat} {r : List Int} (h : rseed F xs M T = some r) {t : Nat} (ht : t ≤ T) : rseed F xs M t = some (rsOf F xs M t) := by
  obtain ⟨s, hs⟩ := rseed_some T r h t ht
  unfold rsOf
  rw [hs]; rfl
def zI (e : Int) : Nat → Int
  | 0 => e
  | i + 1 => Go.bits .and .u64 (zI e i) (IntKind.u64.wrap (zI e i - 1))
def lvI (e : Int) (i : Nat) : Nat := ((bits_TrailingZeros64.f (zI e (i + 1))).getD 0).toNat
def rootOk (F : List Int → List Int → Option (List Int)) (e : Int) (xs : List (List Int)) (M : Nat) : Bool :=
  decide (M < 1099511627776) && ((List.range M).all (fun i => decide (bits_TrailingZeros64.f (zI e (i + 1)) = some (lvI e i : Int)) && decide (lvI e i ≤ 64)) && (List.range (M + 1)).all fun i => decide ((rsOf F xs M i).length ≤ 140737488355328))
def rootV (F : List Int → List Int → Option (List Int)) (e : Int) (xs : List (List Int)) (M : Nat) : List S51 := visR (lvI e) (fun i => zI e (i + 1) / 2 ^ min (lvI e i + 1) 64) (rsOf F xs M) M
def rootF (F : List Int → List Int → Option (List Int)) (e : Int) (xs : List (List Int)) (M : Nat) : Option (List Int × List S51 × Bool) :=
  (rseed F xs M M).bind fun r => if rootOk F e xs M = true then some (r, rootV F e xs M, true) else none
def impl_RootHash.f (k : Nat) (a0 a1 a2 a3 a4 a5 b e : Int) (hs : List (List Int)) : Option (List Int × List S51 × Bool) :=
  if b = 0 ∧ 0 ≤ e ∧ compact_RangeSize.f k b e = some (hs.length : Int) then (impl_texts.f k hs).bind fun xs => if xs.length = hs.length ∧ 0 < xs.length then rootF (impl_toy_HashChildren.f k a0 a1 a2 a3 a4 a5) e xs (xs.length - 1) else none else none
theorem rseed_mono {F F' : List Int → List Int → Option (List Int)} (h : ∀ a b, LeO (F a b) (F' a b)) (xs : List (List Int)) (M : Nat) : ∀ t, LeO (rseed F xs M t) (rseed F' xs M t)
  | 0 => LeO.refl _
  | t + 1 => LeO.bind (rseed_mono h xs M t) (fun s => h _ s)
theorem rootF_mono {F F' : List Int → List Int → Option (List Int)} (h : ∀ a b, LeO (F a b) (F' a b)) (e : Int) (xs : List (List Int)) (M : Nat) : LeO (rootF F e xs M) (rootF F' e xs M) := by
  intro r hr
  unfold rootF at hr ⊢
  obtain ⟨s, hs, hr⟩ := Option.bind_eq_some_iff.mp hr
  have e1 : ∀ t, t ≤ M → rsOf F' xs M t = rsOf F xs M t := fun t ht => by
    have h1 := rseed_of hs ht
    have h2 := rseed_mono h xs M t _ h1
    unfold rsOf at h2 ⊢
    rw [h2]; rfl
  by_cases hok : rootOk F e xs M = true
  case neg => rw [if_neg hok] at hr; cases hr
  rw [if_pos hok] at hr
  have hok' : rootOk F' e xs M = true := by
    unfold rootOk at hok ⊢
    simp only [Bool.and_eq_true] at hok ⊢
    refine ⟨hok.1, hok.2.1, ?_⟩
    refine List.all_eq_true.mpr (fun t ht => ?_)
    rw [e1 t (by have := List.mem_range.mp ht; omega)]
    exact List.all_eq_true.mp hok.2.2 t ht
  have hv : rootV F' e xs M = rootV F e xs M := by
    unfold rootV visR
    refine List.map_congr_left (fun t ht => ?_)
    rw [e1 (t + 1) (by have := List.mem_range.mp ht; omega)]
  rw [rseed_mono h xs M _ _ hs, Option.bind_some, if_pos hok', hv]
  exact hr
theorem impl_RootHash.mono : ∀ a0 a1 a2 a3 a4 a5 b e hs k, LeO (impl_RootHash.f k a0 a1 a2 a3 a4 a5 b e hs) (impl_RootHash.f (k + 1) a0 a1 a2 a3 a4 a5 b e hs) := by
  intro a0 a1 a2 a3 a4 a5 b e hs k
  unfold impl_RootHash.f
  by_cases h : b = 0 ∧ 0 ≤ e ∧ compact_RangeSize.f k b e = some (hs.length : Int)
  case neg => rw [if_neg h]; exact LeO.none _
  rw [if_pos h, if_pos ⟨h.1, h.2.1, compact_RangeSize.mono _ _ _ _ h.2.2⟩]
  exact LeO.bind (impl_texts.mono _ _) (fun x => LeO.ite (rootF_mono (fun a b => impl_toy_HashChildren.mono _ _ _ _ _ _ _ _ _) _ _ _) (LeO.refl _))
theorem three (w : World) (o0 o1 o3 : Obj) : (((w.alloc o0).alloc o1).alloc o3).heap[w.heap.size + 1]? = some o1 ∧ (((w.alloc o0).alloc o1).alloc o3).heap[w.heap.size + 1 + 1]? = some o3 ∧ Below w.heap.size w (((w.alloc o0).alloc o1).alloc o3) := by
  have s1 : (w.alloc o0).heap.size = w.heap.size + 1 := World.size_alloc _ _
  have s2 : ((w.alloc o0).alloc o1).heap.size = w.heap.size + 1 + 1 := by rw [World.size_alloc, s1]
  have b1 := blk_new (w.alloc o0) o1
  have b2 := blk_new ((w.alloc o0).alloc o1) o3
  rw [s1] at b1
  rw [s2] at b2
  exact ⟨blk_alloc b1 _, b2, below_alloc (below_alloc (below_alloc (Below.refl _ _) _) _) _⟩
set_option maxHeartbeats 8000000 in
set_option maxRecDepth 100000 in
theorem impl_RootHash.calls (k : Nat) (a0 a1 a2 a3 a4 a5 b e : Int) (A : Option Addr) (c : Nat) (hs : List (List Int)) (r0 : List Int) (r1 : List S51) (r2 : Bool) (w : World) (hG : Glob w)
    (hr : Kd.C (Kd.slice 5 (Kd.int .u8)) w A hs.length hs) (hc : hs.length ≤ c) (h : impl_RootHash.f k a0 a1 a2 a3 a4 a5 b e hs = some (r0, r1, r2)) :
    Calls Tryd.prog 24 #[.agg #[.int .i64 a0, .int .i64 a1, .int .i64 a2, .int .u64 a3, .int .u64 a4, .int .u64 a5], .agg #[.int .u64 b, .int .u64 e, .slice A hs.length c]] w fun ex w' => ∃ v0 v1, ex = .returned (.tuple #[v0, v1, .bool r2]) ∧ Kd.R (Kd.int .u8) 5 w' w.heap.size (fun _ => True) v0 r0 ∧ Kd.S k51 51 w' w.heap.size (fun _ => True) v1 r1 ∧ Below w.heap.size w w' := by
  unfold impl_RootHash.f at h
  by_cases hq : b = 0 ∧ 0 ≤ e ∧ compact_RangeSize.f k b e = some (hs.length : Int)
  case neg => rw [if_neg hq] at h; cases h
  rw [if_pos hq] at h
  obtain ⟨rfl, he0, hrs⟩ := hq
  obtain ⟨E, rfl⟩ : ∃ E : Nat, e = (E : Int) := ⟨e.toNat, by omega⟩
  obtain ⟨xs, hxs, h⟩ := Option.bind_eq_some_iff.mp h
  by_cases hlen : xs.length = hs.length ∧ 0 < xs.length
  case neg => rw [if_neg hlen] at h; cases h
  rw [if_pos hlen] at h
  obtain ⟨M, hM⟩ : ∃ M, xs.length = M + 1 := ⟨xs.length - 1, by omega⟩
  rw [show xs.length - 1 = M by omega] at h
  unfold rootF at h
  obtain ⟨r, hsd, h⟩ := Option.bind_eq_some_iff.mp h
  by_cases hok : rootOk (impl_toy_HashChildren.f k a0 a1 a2 a3 a4 a5) (E : Int) xs M = true
  case neg => rw [if_neg hok] at h; cases h
  rw [if_pos hok] at h
  have h := Option.some.inj h
  simp only [Prod.mk.injEq] at h
  obtain ⟨rfl, rfl, rfl⟩ := h
  unfold rootOk at hok
  simp only [Bool.and_eq_true, decide_eq_true_eq] at hok
  obtain ⟨o1, o2, o3⟩ := hok
  have HO1 := Aside0.mk o1
  have HO2 := Aside0.mk (show ∀ i, i < M → bits_TrailingZeros64.f (zI (E : Int) (i + 1)) = some (lvI (E : Int) i : Int) ∧ lvI (E : Int) i ≤ 64 from fun i hi => by
    have := List.all_eq_true.mp o2 i (List.mem_range.mpr hi)
    simp only [Bool.and_eq_true, decide_eq_true_eq] at this
    exact this)
  have HO3 := Aside0.mk (show ∀ i, i ≤ M → (rsOf (impl_toy_HashChildren.f k a0 a1 a2 a3 a4 a5) xs M i).length ≤ 140737488355328 from fun i hi => by
    have := List.all_eq_true.mp o3 i (List.mem_range.mpr (by omega))
    simpa using this)
  have HSD := Aside0.mk hsd
  have HG := Aside0.mk hG
  have HR := Aside0.mk hr
  have HC := Aside0.mk hc
  have HRS := Aside0.mk hrs
  have HXS := Aside0.mk hxs
  have HL1 := Aside0.mk hlen.1
  have HM := Aside0.mk hM
  clear hG hr hc hrs hxs hlen hM hsd o1 o2 o3 he0 h
  go_enter Tryd.func24, Tryd.ntmps24
  go_wp2_with (fail)
  obtain ⟨f1, f3, f4⟩ := three w (Obj.cells #[Value.int IntKind.i64 a0, Value.int IntKind.i64 a1, Value.int IntKind.i64 a2, Value.int IntKind.u64 a3, Value.int IntKind.u64 a4, Value.int IntKind.u64 a5] 24) (Obj.cells #[Value.int IntKind.u64 0, Value.int IntKind.u64 (E : Int), Value.slice A hs.length c] 34) (Obj.cells #[Value.func (Fn.func 50) #[Value.agg #[Value.int IntKind.i64 a0, Value.int IntKind.i64 a1, Value.int IntKind.i64 a2, Value.int IntKind.u64 a3, Value.int IntKind.u64 a4, Value.int IntKind.u64 a5]] #[]] 92)
  generalize ((w.alloc (Obj.cells #[Value.int IntKind.i64 a0, Value.int IntKind.i64 a1, Value.int IntKind.i64 a2, Value.int IntKind.u64 a3, Value.int IntKind.u64 a4, Value.int IntKind.u64 a5] 24)).alloc (Obj.cells #[Value.int IntKind.u64 0, Value.int IntKind.u64 (E : Int), Value.slice A hs.length c] 34)).alloc (Obj.cells #[Value.func (Fn.func 50) #[Value.agg #[Value.int IntKind.i64 a0, Value.int IntKind.i64 a1, Value.int IntKind.i64 a2, Value.int IntKind.u64 a3, Value.int IntKind.u64 a4, Value.int IntKind.u64 a5]] #[]] 92) = W0 at f1 f3 f4 ⊢
  obtain ⟨g1, hg1⟩ : ∃ g, g = w.heap.size + 1 := ⟨_, rfl⟩
  obtain ⟨fq, hg3⟩ : ∃ g, g = w.heap.size + 1 + 1 := ⟨_, rfl⟩
  rw [← hg1] at f1
  rw [← hg3] at f3
  rw [← hg3, ← hg1]
  have y0 : W0.cell? ⟨g1, 0, none⟩ = some (.int .u64 0) := blk_cell f1 0
  have y1 : W0.cell? ⟨g1, 1, none⟩ = some (.int .u64 (E : Int)) := blk_cell f1 1
  have y2 : W0.cell? ⟨g1, 2, none⟩ = some (.slice A hs.length c) := blk_cell f1 2
  have BF := Aside0.mk f3
  have HB := Aside0.mk f4
  have HG1 := Aside0.mk (blk_lt f1)
  have HW1 := Aside0.mk (show w.heap.size ≤ g1 ∧ w.heap.size ≤ fq by omega)
  clear f1 f3 f4 hg1 hg3
  have HBn := Aside0.mk (Below.refl W0.heap.size W0)
  go_region_held_law (fun w' => w'.cell? ⟨g1, 0, none⟩ = some (.int .u64 0) ∧ w'.cell? ⟨g1, 1, none⟩ = some (.int .u64 (E : Int)) ∧ w'.cell? ⟨g1, 2, none⟩ = some (.slice A hs.length c)) (first | exact ⟨u0_, u1_, u2_⟩ | exact ⟨v0_, v1_, v2_⟩ | exact ⟨y0, y1, y2⟩ | go_keep) (first
    | (go_simp; go_at_call 45
       have hbd : Below W0.heap.size W0 W0.drew := below_drew (Below.refl _ _)
       have hbw : Below w.heap.size w W0.drew := below_step HB.out hbd
       refine (impl_texts.calls k A c hs xs _ (Kd.C_below HR.out hbw) HC.out HXS.out).mono ?_
       rintro ex wq ⟨v3, rfl, hS3, hb3⟩
       have HB3 := Aside0.mk (show Below W0.heap.size W0 wq from below_step hbd hb3)
       have HS3 := Aside0.mk (Kd.S_lower hS3 (below_size hbw))
       obtain ⟨A3, c3, rfl⟩ := Kd.S_slice hS3
       have v0_ := (HB3.out.cell (p := ⟨g1, 0, none⟩) HG1.out).trans y0
       have v1_ := (HB3.out.cell (p := ⟨g1, 1, none⟩) HG1.out).trans y1
       have v2_ := (HB3.out.cell (p := ⟨g1, 2, none⟩) HG1.out).trans y2
       clear hS3 hb3 hbw hbd)
    | (go_simp; go_at_call 51
       refine (newRange.calls k fq 0 (E : Int) A3 xs.length c3 _ (HG.out.below (below_step HB.out HB3.out)) (by omega) (by rw [HL1.out]; exact HRS.out)).mono ?_
       rintro ex wn ⟨nd, rfl, rfl⟩
       have hp : ((wq.drewN nd).alloc (Obj.cells #[.pointer (some ⟨fq, 0, none⟩), .int .u64 0, .int .u64 (E : Int), .slice A3 xs.length c3] 148)).heap[wq.heap.size]? = some (Obj.cells #[.pointer (some ⟨fq, 0, none⟩), .int .u64 0, .int .u64 (E : Int), .slice A3 xs.length c3] 148) := blk_new (wq.drewN nd) _
       have hbn : Below W0.heap.size W0 ((wq.drewN nd).alloc (Obj.cells #[.pointer (some ⟨fq, 0, none⟩), .int .u64 0, .int .u64 (E : Int), .slice A3 xs.length c3] 148)) := below_alloc (pw_below_drewN HB3.out nd) _
       have hSn := Kd.S_alloc (Kd.S_drewN HS3.out nd) (Obj.cells #[.pointer (some ⟨fq, 0, none⟩), .int .u64 0, .int .u64 (E : Int), .slice A3 xs.length c3] 148)
       have hpp : w.heap.size ≤ wq.heap.size := below_size (below_step HB.out HB3.out)
       generalize (wq.drewN nd).alloc (Obj.cells #[.pointer (some ⟨fq, 0, none⟩), .int .u64 0, .int .u64 (E : Int), .slice A3 xs.length c3] 148) = wn at hp hbn hSn ⊢
       generalize wq.heap.size = p at hp hpp ⊢
       have HP := Aside0.mk hp
       have HBN := Aside0.mk hbn
       have HSN := Aside0.mk hSn
       have HPP := Aside0.mk hpp
       have u0_ := (HBN.out.cell (p := ⟨g1, 0, none⟩) HG1.out).trans y0
       have u1_ := (HBN.out.cell (p := ⟨g1, 1, none⟩) HG1.out).trans y1
       have u2_ := (HBN.out.cell (p := ⟨g1, 2, none⟩) HG1.out).trans y2
       clear hp hbn hSn hpp)
    | fail)
  go_wp2_with (fail)
  have hqn := blk_new wn (Obj.cells #[Value.slice none 0 0] 36)
  have HBQ := Aside0.mk (show Below w.heap.size w (wn.alloc (Obj.cells #[Value.slice none 0 0] 36)) from below_alloc (below_step HB.out HBN.out) _)
  have HPQ := Aside0.mk (blk_alloc HP.out (Obj.cells #[Value.slice none 0 0] 36))
  have HSQ := Aside0.mk (Kd.S_alloc HSN.out (Obj.cells #[Value.slice none 0 0] 36))
  have HFQ := Aside0.mk (blk_alloc (blk_below BF.out HBN.out) (Obj.cells #[Value.slice none 0 0] 36))
  have hqs : w.heap.size ≤ wn.heap.size := below_size (below_step HB.out HBN.out)
  generalize wn.alloc (Obj.cells #[Value.slice none 0 0] 36) = Wq at hqn HBQ HPQ HSQ HFQ ⊢
  generalize wn.heap.size = q at hqn hqs ⊢
  have HQS := Aside0.mk hqs
  clear hqs u0_ u1_ u2_ v0_ v1_ v2_ y0 y1 y2 HB3 HS3 HBN HSN HP BF HB HG1 HR
  obtain ⟨ss, hsl, hRw, hTx⟩ := rows_SH (Kd.S_R HSQ.out)
  have HRG := Aside0.mk (show RgAt Wq w.heap.size p fq a0 a1 a2 a3 a4 a5 0 (E : Int) A3 c3 ss xs from ⟨by rw [hsl]; exact HPQ.out, HFQ.out, by rw [hsl]; exact hRw, hsl, hTx⟩)
  have H1 := Aside0.mk (show 1 ≤ w.heap.size from World.block_lt_of_cell? _ _ (HG.out 0 (by omega)))
  clear hsl hRw hTx HPQ HFQ HSQ
  refine (getRoot.calls k a0 a1 a2 a3 a4 a5 w.heap.size p fq q (E : Int) M A3 c3 ss xs (.slice none 0 0) [] (zI (E : Int)) (lvI (E : Int)) (rsOf (impl_toy_HashChildren.f k a0 a1 a2 a3 a4 a5) xs M) Wq H1.out (Nat.le_trans H1.out HQS.out) (HG.out.below HBQ.out) HBQ.out.size HRG.out hqn (Kd.S_nil _ _ _ _ _) HM.out HO1.out (by have := HO1.out; simp only [List.length_nil]; omega) rfl (fun i _ => rfl) (fun i hi => (HO2.out i hi).1) (fun i hi => (HO2.out i hi).2) rfl (fun i hi => ?hs_) HO3.out).mono ?_
  case hs_ =>
    have g1 := rseed_of HSD.out (show i ≤ M by omega)
    have g2 := rseed_of HSD.out (show i + 1 ≤ M by omega)
    rw [rseed, g1, Option.bind_some] at g2
    exact g2
  rintro ex w5 ⟨A5, c5, SV5, rfl, hT5, hq5, hS5, hVs5, hBB5⟩
  rw [List.nil_append] at hS5
  obtain ⟨AV, cV, rfl⟩ := Kd.S_slice hS5
  have hrs : rsOf (impl_toy_HashChildren.f k a0 a1 a2 a3 a4 a5) xs M M = r := by unfold rsOf; rw [HSD.out]; rfl
  rw [hrs] at hT5 ⊢
  have hrl := HO3.out M (Nat.le_refl _)
  rw [hrs] at hrl
  obtain ⟨_, t2, t3⟩ := hT5.read
  have HT2 := Aside0.mk t2
  have HT3 := Aside0.mk t3
  have HQ5 := Aside0.mk hq5
  have HS5 := Aside0.mk hS5
  have HRL := Aside0.mk hrl
  have HB5 := Aside0.mk (HBQ.out.trans (hBB5 _ (Nat.le_refl _) HQS.out))
  have y0 : w5.cell? ⟨q, 0, none⟩ = some (.slice AV (rootV (impl_toy_HashChildren.f k a0 a1 a2 a3 a4 a5) (E : Int) xs M).length cV) := blk_cell hq5 0
  have HQL := Aside0.mk (show q < w5.heap.size from blk_lt hq5)
  clear hT5 hq5 hS5 hVs5 hBB5 t2 t3 hrl hqn HRG HBQ hrs
  obtain ⟨V, hV⟩ : ∃ V, rootV (impl_toy_HashChildren.f k a0 a1 a2 a3 a4 a5) (E : Int) xs M = V := ⟨_, rfl⟩
  rw [hV] at y0
  replace HS5 := Aside0.mk (show Kd.S k51 51 w5 w.heap.size (fun _ => True) (.slice AV V.length cV) V from by rw [← hV]; exact HS5.out)
  dsimp only
  go_wp2_with (fail)
  go_region_held_law (fun w' => w'.cell? ⟨q, 0, none⟩ = some (.slice AV V.length cV)) (first | exact v0_ | exact y0 | go_keep) (first
    | (refine Kd.R_append_rows_step (Kd.int .u8) (w0 := w5) (W := w5.drew) w.heap.size ?hw (.const (.slice none 0 0)) (.tmp 39) 27 5 (.int .u8 0) 1 rfl Tryd.underlying27 info5 rfl (by decide) (by omega) (.slice none 0 0) [] r A5 r.length c5 (fun _ => True) (fun _ => False) rfl rfl (Kd.R_nil _ _ _ _ _) (Kd.C_drew HT3.out) (fun _ _ h => h) (fun _ h => h.elim) (fun _ _ => trivial) ?hB ?hbase ?aL ?_
       (case hw => simp [Region.wanted])
       (case hB => exact below_drew (Below.refl _ _))
       (case hbase => exact HB5.out.size)
       (case aL => have := HRL.out; simp; omega)
       intro v10 wq ho hB hg hat
       have HR6 := Aside0.mk (show Kd.R (Kd.int .u8) 5 wq w.heap.size (fun _ => True) v10 r from ho)
       obtain ⟨A10, c10, rfl⟩ := Kd.R_slice HR6.out
       have HB6 := Aside0.mk (show Below w5.heap.size w5 wq from (below_drew (Below.refl _ _)).grown hg (Nat.le_refl _) (fun b hb => by cases hb))
       have v0_ := (HB6.out.cell (p := ⟨q, 0, none⟩) HQL.out).trans y0
       clear ho hB hg hat)
    | fail)
  all_goals
    go_step
    try simp [Act.put]
    try go_step
    go_wp2
    refine ⟨rfl, _, results_tmp3 (fn := Tryd.f24) rfl _ _ _, ?_⟩
    rw [hV]
    exact ⟨_, _, rfl, HR6.out, Kd.S_below HS5.out HB6.out, HB5.out.trans (HB6.out.mono HB5.out.size)⟩
end Go.Proofs.YtielnphmcaecdaaDoor.PAll
namespace Go.Proofs.YtielnphmcaecdaaDoor.PAll
open Go.RowKit Go.Proofs.YtielnphmcaecdaaDoor.Mth Go.Proofs.YtielnphmcaecdaaDoorW.PrintWords Go.Proofs.YtielnphmcaecdaaDoorW.PrintLast Go.Proofs.YtielnphmcaecdaaDoorW.PrintMore
set_option linter.unusedVariables false
set_option maxHeartbeats 8000000 in
theorem treeNew.calls (u : Value) (w : World) : Calls Tryd.prog 43 #[.iface 82 u] w fun e w' => e = .returned (.pointer (some ⟨w.heap.size, 0, none⟩)) ∧ w' = w.alloc (Obj.cells #[.iface 82 u, .int .u64 0, .slice none 0 0] 137) := by
  go_enter Tryd.func43, Tryd.ntmps43
  go_wp2
  go_ret
  exact ⟨rfl, rfl⟩
theorem Frm.row {base g : Nat} {w w' : World} {tb : Nat} {v : Value} {ss : List SH} (h : Frm base g w w') (hR : Rw w tb v ss) (hb : w.heap.size ≤ base) (hg : v.ownBlock ≠ some g) : Rw w' tb v ss :=
  Kd.R_mono (Kd.R_step (Kd.R_tight rfl hR) (fun k hk hlt => h.block k (by omega) (fun e => hg (by rw [← hk, e])))) (fun _ _ => trivial)
theorem grew_trans {tb base g : Nat} {hv : Value} {i : Nat} {val : Nat → Nat → List Int} {w w1 w2 : World} (hF : Frm base g w w1) (hP : Pres5 w w1) (hG : Grew tb base g hv ((i : Int) + 1) (i + 1) val w1 w2) : Grew tb base g hv ((i + 1 : Nat) : Int) (i + 1) val w w2 := by
  obtain ⟨H, hs, rows, hT, hlen, hmid, hF2, hP2⟩ := hG
  exact ⟨H, hs, rows, hT, hlen, hmid, hF.trans hF2, hP.trans hP2⟩
set_option maxHeartbeats 16000000 in
set_option maxRecDepth 100000 in
theorem treeAppend.calls (k : Nat) (a0 a1 a2 a3 a4 a5 : Int) (tb g : Nat) (val : Nat → Nat → List Int) (A : Option Addr) (c : Nat) (ss : List SH) (n : Nat) (w : World) (htb : tb ≤ w.heap.size) (hg0 : g < w.heap.size) (hn : n < 1099511627776) (hss : ss.length = n)
    (T : TreeAt w tb w.heap.size g (.iface 82 (toyV a0 a1 a2 a3 a4 a5)) 0 (none, 0, 0) [] [] val) (hR : Rw w tb (.slice A n c) ss) (hX : ∀ (j : Nat) (s : SH), ss[j]? = some s → Txt tb w s (val 0 j))
    (hval : ∀ m i, m < n → (∀ j, j ≤ i → m / 2 ^ j % 2 = 1) → impl_toy_HashChildren.f k a0 a1 a2 a3 a4 a5 (val i (m / 2 ^ i - 1)) (val i (m / 2 ^ i)) = some (val (i + 1) (m / 2 ^ (i + 1)))) :
    Calls Tryd.prog 44 #[.pointer (some ⟨g, 0, none⟩), .slice A n c] w fun e w' => e = .returned (.tuple #[]) ∧ Grew tb w.heap.size g (.iface 82 (toyV a0 a1 a2 a3 a4 a5)) (n : Int) n val w w' := by
  have HTB := Aside0.mk htb
  have HG0 := Aside0.mk hg0
  have HN := Aside0.mk hn
  have HSS := Aside0.mk hss
  have HT := Aside0.mk T
  have HR := Aside0.mk hR
  have HX := Aside0.mk hX
  have HV := Aside0.mk hval
  have HGN := Aside0.mk (show (Value.slice A n c).ownBlock ≠ some g from fun e => by
    obtain ⟨cells, hc⟩ := Kd.R_typed hR g e
    exact blk_other T.cell hc (by decide) rfl)
  have hnl : (n : Int) ≤ 1099511627776 := by omega
  clear htb hg0 hn hss T hR hX hval
  go_enter Tryd.func44, Tryd.ntmps44
  go_wp2
  try simp only [Act.put, List.setIfInBounds_toArray, List.set_cons_zero, List.set_cons_succ]
  go_loopg [8] n (fun kq v8 w' => ∃ (i : Nat), v8 = .int .i64 (i : Int) ∧ Aside0 (i + kq = n) ∧ Aside0 (Grew tb w.heap.size g (.iface 82 (toyV a0 a1 a2 a3 a4 a5)) (i : Int) i val w w'))
  case atStart => exact ⟨0, rfl, ⟨by omega⟩, ⟨(none, 0, 0), [], [], HT.out, by rw [blen_zero]; rfl, fun i rs h => by simp at h, Frm.refl _ _ _, Pres5.refl _⟩⟩
  case round =>
    clear HT
    obtain ⟨i, rfl, HI, HGr⟩ := hrel
    obtain ⟨H, hs, rows, hT, hlen, hmid, hF, hP⟩ := HGr.out
    cases gk with
    | zero =>
      have ei : i = n := by have := HI.out; omega
      subst ei
      clear hT hlen hmid hF hP
      go_wp2
      go_end0
      exact ⟨rfl, HGr.out⟩
    | succ k1 =>
      have hi : i < n := by have := HI.out; omega
      obtain ⟨⟨As, ns, cs⟩, hs1⟩ : ∃ s, ss[i]? = some s := ⟨_, List.getElem?_eq_getElem (by have := HSS.out; omega)⟩
      have hRow := hF.row HR.out (Nat.le_refl _) HGN.out
      obtain ⟨gL, cL, eL, _⟩ := kSH_form (s := (A, n, c)) hRow (by have := HSS.out; omega)
      simp only [Prod.mk.injEq] at eL
      obtain ⟨rfl, -, rfl⟩ := eL
      obtain ⟨x1, _⟩ := kSH_cell hRow hs1
      replace x1 : World.cell? _ _ = some (.slice As ns cs) := x1
      have hTx := (HX.out i _ hs1).pres hP
      have d0 : 0 ≤ (i : Int) := by omega
      have d1 : (i : Int) < (n : Int) := by omega
      have d2 : decide ((i : Int) < (n : Int)) = true := decide_eq_true d1
      have d3 : decide (i < n) = true := decide_eq_true hi
      have HT := Aside0.mk hT
      have HLEN := Aside0.mk hlen
      have HMID := Aside0.mk hmid
      have HF := Aside0.mk hF
      have HP := Aside0.mk hP
      have HTX := Aside0.mk hTx
      have HI2 := Aside0.mk hi
      clear hs1 hRow hT hlen hmid hF hP hTx hi
      go_wp2_with (fail)
      refine (treeAppendImpl.calls k a0 a1 a2 a3 a4 a5 tb w.heap.size g (i : Int) i rfl (by have := HN.out; have := HI2.out; omega) H hs rows val As ns cs _ HTB.out HF.out.size HT.out HLEN.out HMID.out HTX.out (fun q hq => HV.out i q HI2.out hq)).mono ?_
      rintro e w4 ⟨rfl, hG⟩
      have HG4 := Aside0.mk (grew_trans (hG := hG) HF.out HP.out)
      clear hG x1
      dsimp only
      go_wp2
      go_roundg k1
      case measure => omega
      case rel => exact ⟨i + 1, by first | rfl | (congr 1), ⟨by have := HI.out; omega⟩, HG4⟩
def node_ (F : List Int → List Int → Option (List Int)) (L : List (List Int)) : Nat → Nat → Option (List Int)
  | 0, j => L[j]?
  | i + 1, j => (node_ F L i (2 * j)).bind fun x => (node_ F L i (2 * j + 1)).bind fun y => F x y
def allN (F : List Int → List Int → Option (List Int)) (L : List (List Int)) (n : Nat) : Bool := (List.range 64).all fun i => (List.range (n / 2 ^ i)).all fun j => (node_ F L i j).isSome
def nodeV (F : List Int → List Int → Option (List Int)) (L : List (List Int)) (i j : Nat) : List Int := (node_ F L i j).getD []
def idsIn (n : Nat) (ids : List S99) : Bool := ids.all fun id => decide (0 ≤ id.f0) && (decide (0 ≤ id.f1) && decide ((id.f1.toNat + 1) * 2 ^ id.f0.toNat ≤ n))
def impl_TreeRoot.f (k : Nat) (a0 a1 a2 a3 a4 a5 : Int) (l : List (List Int)) (size : Int) : Option (List Int × Bool) :=
  if IntKind.u64.wrap (l.length : Int) < size then some ([], false) else
  if l.length < 1099511627776 then (impl_texts.f k l).bind fun x =>
    if x.length < 1099511627776 ∧ allN (impl_toy_HashChildren.f k a0 a1 a2 a3 a4 a5) x x.length = true then
      (if size = 0 then (impl_toy_EmptyRoot.f k a0 a1 a2 a3 a4 a5).bind fun r => some (r, true)
       else (compact_RangeNodes.f k 0 size []).bind fun ids => if ids.length ≤ 100000 ∧ idsIn x.length ids = true then (foldR_ (impl_toy_HashChildren.f k a0 a1 a2 a3 a4 a5) (ids.map fun id => nodeV (impl_toy_HashChildren.f k a0 a1 a2 a3 a4 a5) x id.f0.toNat id.f1.toNat)).bind fun r => some (r, true) else none)
    else none
  else none
theorem node_mono {F F' : List Int → List Int → Option (List Int)} (h : ∀ a b, LeO (F a b) (F' a b)) (L : List (List Int)) : ∀ i j, LeO (node_ F L i j) (node_ F' L i j)
  | 0, _ => LeO.refl _
  | i + 1, j => by
    unfold node_
    exact LeO.bind (node_mono h L i _) (fun x => LeO.bind (node_mono h L i _) (fun y => h x y))
theorem foldR_mono {F F' : List Int → List Int → Option (List Int)} (h : ∀ a b, LeO (F a b) (F' a b)) : ∀ l, LeO (foldR_ F l) (foldR_ F' l)
  | [] => LeO.refl _
  | [x] => LeO.refl _
  | x :: y :: l => by
    unfold foldR_
    exact LeO.bind (foldR_mono h (y :: l)) (fun t => h x t)
theorem allN_some {F : List Int → List Int → Option (List Int)} {L : List (List Int)} {n i j : Nat} (h : allN F L n = true) (hn : n < 1099511627776) (hj : (j + 1) * 2 ^ i ≤ n) : node_ F L i j = some (nodeV F L i j) := by
  have hi : i < 64 := by
    apply Nat.lt_of_not_le
    intro h2
    have h3 := Nat.pow_le_pow_right (n := 2) (by decide) h2
    have h4 : 2 ^ i ≤ (j + 1) * 2 ^ i := Nat.le_mul_of_pos_left _ (by omega)
    have h5 : (2 : Nat) ^ 64 = 18446744073709551616 := rfl
    omega
  have h1 := List.all_eq_true.mp h i (List.mem_range.mpr hi)
  have h2 := List.all_eq_true.mp h1 j (List.mem_range.mpr (by
    have hp := Nat.two_pow_pos i
    have : j + 1 ≤ n / 2 ^ i := (Nat.le_div_iff_mul_le hp).mpr hj
    omega))
  unfold nodeV
  obtain ⟨v, hv⟩ := Option.isSome_iff_exists.mp h2
  rw [hv]; rfl
theorem node_step {F : List Int → List Int → Option (List Int)} {L : List (List Int)} {n m i : Nat} (h : allN F L n = true) (hn : n < 1099511627776) (hm : m < n) (hb : ∀ j, j ≤ i → m / 2 ^ j % 2 = 1) : F (nodeV F L i (m / 2 ^ i - 1)) (nodeV F L i (m / 2 ^ i)) = some (nodeV F L (i + 1) (m / 2 ^ (i + 1))) := by
  have h0 := hb i (Nat.le_refl _)
  have hc := carry (n := m) (ℓ := i + 1) (fun j hj => hb j (by omega))
  have hle : (m / 2 ^ (i + 1) + 1) * 2 ^ (i + 1) ≤ n := by
    have := Nat.div_mul_le_self (m + 1) (2 ^ (i + 1))
    rw [hc] at this; omega
  have h1 := allN_some h hn hle
  have e : m / 2 ^ (i + 1) = m / 2 ^ i / 2 := by rw [Nat.pow_succ, ← Nat.div_div_eq_div_mul]
  have hpow : 2 ^ (i + 1) = 2 * 2 ^ i := by rw [Nat.pow_succ]; omega
  have h2 := allN_some (i := i) (j := 2 * (m / 2 ^ (i + 1))) h hn (by
    have h4 : (2 * (m / 2 ^ (i + 1)) + 1) * 2 ^ i ≤ (m / 2 ^ (i + 1) + 1) * 2 ^ (i + 1) := by
      rw [hpow, ← Nat.mul_assoc]; exact Nat.mul_le_mul_right _ (by omega)
    omega)
  have h3 := allN_some (i := i) (j := 2 * (m / 2 ^ (i + 1)) + 1) h hn (by
    have h4 : (2 * (m / 2 ^ (i + 1)) + 1 + 1) * 2 ^ i ≤ (m / 2 ^ (i + 1) + 1) * 2 ^ (i + 1) := by
      rw [hpow, ← Nat.mul_assoc]; exact Nat.mul_le_mul_right _ (by omega)
    omega)
  rw [node_, h2, Option.bind_some, h3, Option.bind_some] at h1
  have e1 : 2 * (m / 2 ^ (i + 1)) = m / 2 ^ i - 1 := by omega
  have e2 : 2 * (m / 2 ^ (i + 1)) + 1 = m / 2 ^ i := by omega
  rw [e2, e1] at h1
  exact h1
theorem idsIn_at {n : Nat} {ids : List S99} {i : Nat} {id : S99} (h : idsIn n ids = true) (hi : ids[i]? = some id) : id = ⟨((id.f0.toNat : Nat) : Int), ((id.f1.toNat : Nat) : Int)⟩ ∧ (id.f1.toNat + 1) * 2 ^ id.f0.toNat ≤ n := by
  have h1 := List.all_eq_true.mp h id (List.mem_of_getElem? hi)
  simp only [Bool.and_eq_true, decide_eq_true_eq] at h1
  obtain ⟨h2, h3, h4⟩ := h1
  obtain ⟨f0, f1⟩ := id
  refine ⟨?_, h4⟩
  show (⟨f0, f1⟩ : S99) = ⟨((f0.toNat : Nat) : Int), ((f1.toNat : Nat) : Int)⟩
  rw [Int.toNat_of_nonneg h2, Int.toNat_of_nonneg h3]
theorem impl_TreeRoot.mono : ∀ a0 a1 a2 a3 a4 a5 l size k, LeO (impl_TreeRoot.f k a0 a1 a2 a3 a4 a5 l size) (impl_TreeRoot.f (k + 1) a0 a1 a2 a3 a4 a5 l size) := by
  intro a0 a1 a2 a3 a4 a5 l size k
  have hF : ∀ a b, LeO (impl_toy_HashChildren.f k a0 a1 a2 a3 a4 a5 a b) (impl_toy_HashChildren.f (k + 1) a0 a1 a2 a3 a4 a5 a b) := fun a b => impl_toy_HashChildren.mono _ _ _ _ _ _ _ _ _
  unfold impl_TreeRoot.f
  refine LeO.ite (LeO.refl _) (LeO.ite (LeO.bind (impl_texts.mono _ _) (fun x => ?_)) (LeO.refl _))
  by_cases h : x.length < 1099511627776 ∧ allN (impl_toy_HashChildren.f k a0 a1 a2 a3 a4 a5) x x.length = true
  case neg => rw [if_neg h]; exact LeO.none _
  have hV : ∀ i j, (j + 1) * 2 ^ i ≤ x.length → node_ (impl_toy_HashChildren.f (k + 1) a0 a1 a2 a3 a4 a5) x i j = some (nodeV (impl_toy_HashChildren.f k a0 a1 a2 a3 a4 a5) x i j) := fun i j hj => node_mono hF x i j _ (allN_some h.2 h.1 hj)
  have h' : x.length < 1099511627776 ∧ allN (impl_toy_HashChildren.f (k + 1) a0 a1 a2 a3 a4 a5) x x.length = true := ⟨h.1, List.all_eq_true.mpr (fun i _ => List.all_eq_true.mpr (fun j hj => by
    rw [hV i j (by
      have := List.mem_range.mp hj
      exact (Nat.le_div_iff_mul_le (Nat.two_pow_pos i)).mp (by omega))]; rfl))⟩
  rw [if_pos h, if_pos h']
  refine LeO.ite (LeO.bind (impl_toy_EmptyRoot.mono _ _ _ _ _ _ _) (fun _ => LeO.refl _)) (LeO.bind (compact_RangeNodes.mono _ _ _ _) (fun ids => ?_))
  by_cases h2 : ids.length ≤ 100000 ∧ idsIn x.length ids = true
  case neg => rw [if_neg h2]; exact LeO.none _
  rw [if_pos h2, if_pos h2]
  have e : (ids.map fun id => nodeV (impl_toy_HashChildren.f (k + 1) a0 a1 a2 a3 a4 a5) x id.f0.toNat id.f1.toNat) = ids.map fun id => nodeV (impl_toy_HashChildren.f k a0 a1 a2 a3 a4 a5) x id.f0.toNat id.f1.toNat := by
    refine List.map_congr_left (fun id hid => ?_)
    obtain ⟨i, hi⟩ := List.getElem?_of_mem hid
    have := hV _ _ (idsIn_at h2.2 hi).2
    unfold nodeV at this ⊢
    rw [this]; rfl
  rw [e]
  exact LeO.bind (foldR_mono hF _) (fun _ => LeO.refl _)
theorem looks_of {n : Nat} {ids : List S99} {hs : List SH} {rows : List (List SH)} (hl : rows.length = hs.length) (hlen : hs.length = blen n) (hmid : Mid n 0 rows) (hid : idsIn n ids = true) :
    Looks ids rows (ids.map fun id => ((rows.getD id.f0.toNat []).getD id.f1.toNat ((none, 0, 0) : SH))) := by
  refine ⟨by rw [List.length_map], fun i id hi => ?_⟩
  obtain ⟨h1, h2⟩ := idsIn_at hid hi
  have hp := Nat.two_pow_pos id.f0.toNat
  have hle : id.f1.toNat + 1 ≤ n / 2 ^ id.f0.toNat := (Nat.le_div_iff_mul_le hp).mpr h2
  have ha : id.f0.toNat < rows.length := by
    rw [hl, hlen]
    apply Nat.lt_of_not_le
    intro h3
    rw [Nat.div_eq_of_lt (blen_le.1 h3)] at hle
    omega
  have hr := hmid id.f0.toNat _ (List.getElem?_eq_getElem ha)
  rw [if_neg (show ¬ id.f0.toNat < 0 by omega), Nat.add_zero] at hr
  refine ⟨id.f0.toNat, id.f1.toNat, rows[id.f0.toNat], (rows[id.f0.toNat])[id.f1.toNat]'(by omega), h1, List.getElem?_eq_getElem ha, List.getElem?_eq_getElem (by omega), ?_⟩
  rw [List.getElem?_map, hi]
  simp only [Option.map_some, List.getD_eq_getElem?_getD, List.getElem?_eq_getElem ha, Option.getD_some]
  rw [List.getElem?_eq_getElem (show id.f1.toNat < (rows[id.f0.toNat]).length by omega)]
  rfl
theorem looks_txt {w : World} {tb base g : Nat} {hv : Value} {n : Int} {H : SH} {hs : List SH} {rows : List (List SH)} {val : Nat → Nat → List Int} {ids : List S99} {ss : List SH} (T : TreeAt w tb base g hv n H hs rows val) (lk : Looks ids rows ss) :
    ∀ (i : Nat) (s : SH) (b : List Int), ss[i]? = some s → (ids.map fun id => val id.f0.toNat id.f1.toNat)[i]? = some b → Txt tb w s b := by
  intro i s b hs hb
  rw [List.getElem?_map] at hb
  obtain ⟨id, hid, rfl⟩ := Option.map_eq_some_iff.mp hb
  obtain ⟨a, c, rs, s', rfl, h1, h2, h3⟩ := lk.2 i id hid
  obtain rfl := Option.some.inj (hs.symm.trans h3)
  exact T.txt a c rs s h1 h2
set_option maxHeartbeats 16000000 in
set_option maxRecDepth 100000 in
theorem impl_TreeRoot.calls (k : Nat) (a0 a1 a2 a3 a4 a5 : Int) (A1 : Option Addr) (c1 : Nat) (l1 : List (List Int)) (size : Int) (r0 : List Int) (r1 : Bool) (w : World) (hG : Glob w) (hr1 : Kd.C (Kd.slice 5 (Kd.int .u8)) w A1 l1.length l1) (hc1 : l1.length ≤ c1) (h : impl_TreeRoot.f k a0 a1 a2 a3 a4 a5 l1 size = some (r0, r1)) :
    Calls Tryd.prog 14 #[.agg #[.int .i64 a0, .int .i64 a1, .int .i64 a2, .int .u64 a3, .int .u64 a4, .int .u64 a5], .slice A1 l1.length c1, .int .u64 size] w fun e w' => ∃ v0_, e = .returned (.tuple #[v0_, .bool r1]) ∧ Kd.R (Kd.int .u8) 5 w' w.heap.size (fun _ => True) v0_ r0 ∧ Below w.heap.size w w' := by
  unfold impl_TreeRoot.f at h
  by_cases hs : IntKind.u64.wrap (l1.length : Int) < size
  · rw [if_pos hs] at h
    have h := Option.some.inj h
    simp only [Prod.mk.injEq] at h
    obtain ⟨rfl, rfl⟩ := h
    have b0 : decide (IntKind.u64.wrap (l1.length : Int) < size) = true := decide_eq_true hs
    clear hs hr1 hc1 hG
    go_enter Tryd.func14, Tryd.ntmps14
    go_wp2
    go_ret2
    exact ⟨_, rfl, Kd.R_nil _ _ _ _ _, by repeat (first | exact Below.refl _ _ | apply below_alloc | apply pw_below_drewN | apply below_drew1)⟩
  rw [if_neg hs] at h
  by_cases hl : l1.length < 1099511627776
  case neg => rw [if_neg hl] at h; cases h
  rw [if_pos hl] at h
  obtain ⟨x, hx, h⟩ := Option.bind_eq_some_iff.mp h
  by_cases hal : x.length < 1099511627776 ∧ allN (impl_toy_HashChildren.f k a0 a1 a2 a3 a4 a5) x x.length = true
  case neg => rw [if_neg hal] at h; cases h
  rw [if_pos hal] at h
  have b0 : decide (IntKind.u64.wrap (l1.length : Int) < size) = false := decide_eq_false hs
  have HX := Aside0.mk hx
  have HAL := Aside0.mk hal
  have HR1 := Aside0.mk hr1
  have HC1 := Aside0.mk hc1
  have H := Aside0.mk h
  have HG := Aside0.mk hG
  clear hs hl hx hal h hr1 hc1 hG
  go_enter Tryd.func14, Tryd.ntmps14
  go_wp2_with (fail)
  refine (treeNew.calls _ _).mono ?_
  rintro e w1 ⟨rfl, rfl⟩
  dsimp only
  obtain ⟨W0, hW0⟩ : ∃ W0, w.alloc (Obj.cells #[.int .i64 a0, .int .i64 a1, .int .i64 a2, .int .u64 a3, .int .u64 a4, .int .u64 a5] 24) = W0 := ⟨_, rfl⟩
  rw [hW0]
  have HB0 := Aside0.mk (show Below w.heap.size w W0 by rw [← hW0]; exact below_alloc (Below.refl _ _) _)
  clear hW0
  obtain ⟨W1, hW1⟩ : ∃ W1, W0.alloc (Obj.cells #[.iface 82 (toyV a0 a1 a2 a3 a4 a5), .int .u64 0, .slice none 0 0] 137) = W1 := ⟨_, rfl⟩
  have hW1' : W0.alloc (Obj.cells #[.iface 82 (.agg #[.int .i64 a0, .int .i64 a1, .int .i64 a2, .int .u64 a3, .int .u64 a4, .int .u64 a5]), .int .u64 0, .slice none 0 0] 137) = W1 := hW1
  rw [hW1']
  have bk := Aside0.mk (show W1.heap[W0.heap.size]? = some (.cells #[.iface 82 (toyV a0 a1 a2 a3 a4 a5), .int .u64 0, .slice none 0 0] 137 (0, 0)) by rw [← hW1]; exact blk_new W0 _)
  have HB1 := Aside0.mk (show Below w.heap.size w W1 by rw [← hW1]; exact below_alloc HB0.out _)
  have HGE := Aside0.mk (show w.heap.size ≤ W0.heap.size from HB0.out.size)
  have HGL := Aside0.mk (show W0.heap.size < W1.heap.size from (Array.getElem?_eq_some_iff.1 bk.out).1)
  clear hW1 hW1'
  generalize W0.heap.size = g at bk HGE HGL ⊢
  go_wp2_with (fail)
  refine (impl_texts.calls k A1 c1 l1 x W1 (Kd.C_below HR1.out HB1.out) HC1.out HX.out).mono ?_
  rintro e w2 ⟨v2, rfl, hS, hb⟩
  obtain ⟨A2, c2, e2⟩ := Kd.S_slice hS
  subst e2
  have HB2 := Aside0.mk (HB1.out.trans (hb.mono HB1.out.size))
  have bk2 := Aside0.mk ((hb.block g HGL.out).trans bk.out)
  obtain ⟨ss, hsl, hRw, hTx⟩ := rows_SH (Kd.S_R hS)
  have HSL := Aside0.mk hsl
  have HRw := Aside0.mk (show Rw w2 w.heap.size (.slice A2 x.length c2) ss from Kd.R_lower hRw HB1.out.size)
  have HTx := Aside0.mk (show ∀ (j : Nat) (s : SH), ss[j]? = some s → Txt w.heap.size w2 s (nodeV (impl_toy_HashChildren.f k a0 a1 a2 a3 a4 a5) x 0 j) from fun j s hj => by
    have hjl : j < x.length := by have := (List.getElem?_eq_some_iff.1 hj).1; omega
    have h1 := hTx j s _ hj (List.getElem?_eq_getElem hjl)
    have e : nodeV (impl_toy_HashChildren.f k a0 a1 a2 a3 a4 a5) x 0 j = x[j] := by
      unfold nodeV node_
      rw [List.getElem?_eq_getElem hjl]; rfl
    rw [e]
    exact Txt.of_R h1 HB1.out.size)
  clear hS hb hsl hRw hTx bk HB1
  dsimp only
  have HV := Aside0.mk (show ∀ m i, m < x.length → (∀ j, j ≤ i → m / 2 ^ j % 2 = 1) → impl_toy_HashChildren.f k a0 a1 a2 a3 a4 a5 (nodeV (impl_toy_HashChildren.f k a0 a1 a2 a3 a4 a5) x i (m / 2 ^ i - 1)) (nodeV (impl_toy_HashChildren.f k a0 a1 a2 a3 a4 a5) x i (m / 2 ^ i)) = some (nodeV (impl_toy_HashChildren.f k a0 a1 a2 a3 a4 a5) x (i + 1) (m / 2 ^ (i + 1))) from fun m i hm hb => node_step HAL.out.2 HAL.out.1 hm hb)
  go_wp2_with (fail)
  refine (treeAppend.calls k a0 a1 a2 a3 a4 a5 w.heap.size g (nodeV (impl_toy_HashChildren.f k a0 a1 a2 a3 a4 a5) x) A2 c2 ss x.length w2 HB2.out.size (Array.getElem?_eq_some_iff.1 bk2.out).1 HAL.out.1 HSL.out ⟨bk2.out, Kd.R_nil _ _ _ _ _, rfl, fun i h hi => by simp at hi, fun i j h h' b hi => by simp at hi, fun i j rs s hi => by simp at hi⟩ HRw.out HTx.out HV.out).mono ?_
  rintro e w3 ⟨rfl, hGr⟩
  obtain ⟨H3, hs3, rows3, hT3, hlen3, hmid3, hF3, hP3⟩ := hGr
  have HT3 := Aside0.mk hT3
  have HLEN3 := Aside0.mk hlen3
  have HMID3 := Aside0.mk hmid3
  have HB3 := Aside0.mk (show Below w.heap.size w w3 from HB2.out.trans (hF3.below HB2.out.size HGE.out))
  clear hT3 hlen3 hmid3 hF3 hP3
  dsimp only
  have h := H.out
  by_cases h0 : size = 0
  · subst h0
    rw [if_pos rfl] at h
    obtain ⟨r, hr, h⟩ := Option.bind_eq_some_iff.mp h
    have h := Option.some.inj h
    simp only [Prod.mk.injEq] at h
    obtain ⟨rfl, rfl⟩ := h
    have HR := Aside0.mk hr
    clear hr H h
    go_wp2_with (fail)
    refine (treeHashAt0.calls k a0 a1 a2 a3 a4 a5 w.heap.size w2.heap.size g _ H3 hs3 rows3 _ r w3 HT3.out HR.out).mono ?_
    rintro e w4 ⟨v4, rfl, h1, h2⟩
    have H1 := Aside0.mk h1
    have H2 := Aside0.mk h2
    clear h1 h2
    dsimp only
    go_wp2
    go_ret2
    exact ⟨_, rfl, Kd.R_lower H1.out HB3.out.size, HB3.out.trans (H2.out.mono HB3.out.size)⟩
  · rw [if_neg h0] at h
    obtain ⟨ids, hids, h⟩ := Option.bind_eq_some_iff.mp h
    by_cases hid : ids.length ≤ 100000 ∧ idsIn x.length ids = true
    case neg => rw [if_neg hid] at h; cases h
    rw [if_pos hid] at h
    obtain ⟨r, hr, h⟩ := Option.bind_eq_some_iff.mp h
    have h := Option.some.inj h
    simp only [Prod.mk.injEq] at h
    obtain ⟨rfl, rfl⟩ := h
    have HR := Aside0.mk hr
    have HIDS := Aside0.mk hids
    have HID := Aside0.mk hid
    have H0 := Aside0.mk h0
    clear hr H h hids hid h0
    have HLK := Aside0.mk (looks_of HT3.out.len HLEN3.out HMID3.out HID.out.2)
    go_wp2_with (fail)
    refine (treeHashAt.calls k a0 a1 a2 a3 a4 a5 w.heap.size w2.heap.size g _ H3 hs3 rows3 _ size ids _ _ r w3 (HG.out.below HB3.out) HB3.out.size HT3.out H0.out HIDS.out HID.out.1 HLK.out (by rw [List.length_map, List.length_map]) (looks_txt HT3.out HLK.out) HR.out).mono ?_
    rintro e w4 ⟨v4, rfl, h1, h2⟩
    have H1 := Aside0.mk h1
    have H2 := Aside0.mk h2
    clear h1 h2
    dsimp only
    go_wp2
    go_ret2
    exact ⟨_, rfl, H1.out, HB3.out.trans (H2.out.mono HB3.out.size)⟩
end Go.Proofs.YtielnphmcaecdaaDoor.PAll
