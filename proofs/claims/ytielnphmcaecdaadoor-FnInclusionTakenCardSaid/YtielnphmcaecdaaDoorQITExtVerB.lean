-- Written by a program of this session (wip/tools)
import Derived.Test.YtielnphmcaecdaaDoorQITCap
import Derived.Test.YtielnphmcaecdaaDoorQITExtCons
import Derived.Deep.RegionHeldLaw
import Derived.Outline
import Derived.Deep.QuietTactic
import Derived.BigQuiet
import Derived.Deep.RegionWith
import Derived.IntWalk
import Derived.Test.YtielnphmcaecdaaDoorQITPAllx5
namespace Go.Proofs.YtielnphmcaecdaaDoor.PAll
open Go.IntWalk Go.RowKit Go.Proofs.YtielnphmcaecdaaDoor.Num Go.Proofs.YtielnphmcaecdaaDoor.Mth Go.Proofs.YtielnphmcaecdaaDoorW.PrintWords Go.Proofs.YtielnphmcaecdaaDoorW.PrintLast Go.Proofs.YtielnphmcaecdaaDoorW.PrintMore
set_option linter.unusedVariables false
theorem upB_mono {H H' : List Int → List Int → Option (List Int)} (h : ∀ a b, LeO (H a b) (H' a b)) : ∀ l s, LeO (upB_ H l s) (upB_ H' l s)
  | [], s => LeO.refl _
  | x :: xs, s => LeO.bind (h x s) (fun t => upB_mono h xs t)
def hashF (k : Nat) (a0 a1 a2 a3 a4 a5 : Int) (n b e : Nat) (l : List (List Int)) : Option (List (List Int) × Bool) :=
  (impl_texts.f k l).bind fun xs => if xs.length = n then (if b < e then upB_ (impl_toy_HashChildren.f k a0 a1 a2 a3 a4 a5) ((xs.take e).drop (b + 1)) (xs.getD b []) else some []).bind fun f => (impl_texts.f k (rehL b e xs f)).bind fun r => some (r, true)
    else (impl_texts.f k []).bind fun r => some (r, false)
theorem hashF_mono (k : Nat) (a0 a1 a2 a3 a4 a5 : Int) (n b e : Nat) (l : List (List Int)) : LeO (hashF k a0 a1 a2 a3 a4 a5 n b e l) (hashF (k + 1) a0 a1 a2 a3 a4 a5 n b e l) := by
  unfold hashF
  refine LeO.bind (impl_texts.mono _ _) (fun x => LeO.ite (LeO.bind (LeO.ite (upB_mono (fun a b => impl_toy_HashChildren.mono _ _ _ _ _ _ _ _ _) _ _) (LeO.refl _)) (fun f => LeO.bind (impl_texts.mono _ _) (fun r => LeO.refl _))) (LeO.bind (impl_texts.mono _ _) (fun r => LeO.refl _)))
def conPlan (s n : Nat) : List (Nat × Nat) × Nat × Nat :=
  if s = n ∨ s = 0 then ([], 0, 0) else if s / 2 ^ lev s (2 * s) = 1 then (skIds (s / 2 ^ lev s (2 * s) - 1) (lev s (2 * s)) n, skBegin (s / 2 ^ lev s (2 * s) - 1) (lev s (2 * s)) n, skEnd (s / 2 ^ lev s (2 * s) - 1) (lev s (2 * s)) n)
    else (ndIds (s / 2 ^ lev s (2 * s) - 1) (lev s (2 * s)) n, ndBegin (s / 2 ^ lev s (2 * s) - 1) (lev s (2 * s)) n, ndEnd (s / 2 ^ lev s (2 * s) - 1) (lev s (2 * s)) n)
theorem ndS_len (i l n : Nat) : (ndS i l n).length = ndM i l n := by unfold ndS; simp
theorem skIds_len (i l n : Nat) (hl : l ≤ 63) (hi : i < n / 2 ^ l) (hn : n < 18446744073709551616) : skEnd i l n ≤ (skIds i l n).length ∧ skBegin i l n ≤ skEnd i l n ∧ (skIds i l n).length ≤ 400 := by
  have lenR : (Nds 0 (ndE i l n) n).length ≤ 128 := Nds_len 0 _ _ 64 hn
  have lenL : (Nds 0 0 (ndB i l n)).length ≤ 128 := Nds_len 0 _ _ 64 (by have := ndB_lt i l n hi; omega)
  have hm := ndM_le i l n hl hi hn
  unfold skEnd skBegin skIds
  rw [List.length_append, List.length_append, List.length_reverse, List.length_reverse, ndS_len]
  split <;> omega
theorem incIds_end (i n : Nat) (hi : i < n) (hn : n < 18446744073709551616) : incEnd i n ≤ (incIds i n).length ∧ incBegin i n ≤ incEnd i n := by
  have h := skIds_len i 0 n (by omega) (by rw [Nat.pow_zero, Nat.div_one]; exact hi) hn
  exact ⟨h.1, h.2.1⟩
def impl_InclusionHashes.f (k : Nat) (a0 a1 a2 a3 a4 a5 x1 x2 : Int) (l : List (List Int)) : Option (List (List Int) × Bool) :=
  if x2 ≤ x1 then some ([], false) else if 0 ≤ x1 ∧ x2 < 18446744073709551616 then hashF k a0 a1 a2 a3 a4 a5 (incIds x1.toNat x2.toNat).length (incBegin x1.toNat x2.toNat) (incEnd x1.toNat x2.toNat) l else none
theorem impl_InclusionHashes.mono : ∀ a0 a1 a2 a3 a4 a5 x1 x2 l k, LeO (impl_InclusionHashes.f k a0 a1 a2 a3 a4 a5 x1 x2 l) (impl_InclusionHashes.f (k + 1) a0 a1 a2 a3 a4 a5 x1 x2 l) := by
  intro a0 a1 a2 a3 a4 a5 x1 x2 l k
  unfold impl_InclusionHashes.f
  exact LeO.ite (LeO.refl _) (LeO.ite (hashF_mono _ _ _ _ _ _ _ _ _ _ _) (LeO.refl _))
def impl_ConsistencyHashes.f (k : Nat) (a0 a1 a2 a3 a4 a5 x1 x2 : Int) (l : List (List Int)) : Option (List (List Int) × Bool) :=
  if x2 < x1 then some ([], false) else if 0 ≤ x1 ∧ x2 < 18446744073709551616 then hashF k a0 a1 a2 a3 a4 a5 (conPlan x1.toNat x2.toNat).1.length (conPlan x1.toNat x2.toNat).2.1 (conPlan x1.toNat x2.toNat).2.2 l else none
theorem impl_ConsistencyHashes.mono : ∀ a0 a1 a2 a3 a4 a5 x1 x2 l k, LeO (impl_ConsistencyHashes.f k a0 a1 a2 a3 a4 a5 x1 x2 l) (impl_ConsistencyHashes.f (k + 1) a0 a1 a2 a3 a4 a5 x1 x2 l) := by
  intro a0 a1 a2 a3 a4 a5 x1 x2 l k
  unfold impl_ConsistencyHashes.f
  exact LeO.ite (LeO.refl _) (LeO.ite (hashF_mono _ _ _ _ _ _ _ _ _ _ _) (LeO.refl _))
end Go.Proofs.YtielnphmcaecdaaDoor.PAll
namespace Go.Proofs.YtielnphmcaecdaaDoor.PAll
open Go.IntWalk Go.RowKit Go.Proofs.YtielnphmcaecdaaDoorW.PrintWords Go.Proofs.YtielnphmcaecdaaDoorW.PrintLast Go.Proofs.YtielnphmcaecdaaDoorW.PrintMore
set_option linter.unusedVariables false
set_option maxHeartbeats 16000000 in
set_option maxRecDepth 100000 in
theorem rehashM.calls (k : Nat) (a0 a1 a2 a3 a4 a5 : Int) (A : Option Addr) (c n b e : Nat) (z1 z2 : Int) (v : Value) (xs : List (List Int)) (ss : List SH) (f : List Int) (tb base : Nat) (w : World) (hbase : base ≤ w.heap.size) (htb : tb ≤ base)
    (hsl : ss.length = xs.length) (hRow : Rw w base v ss) (hTx : ∀ (j : Nat) (s : SH) (b : List Int), ss[j]? = some s → xs[j]? = some b → Txt tb w s b) (hn : xs.length = n) (hb63 : b < 4611686018427387904) (he63 : e < 4611686018427387904) (hbe : b < e → e ≤ n)
    (hf : b < e → upB_ (impl_toy_HashChildren.f k a0 a1 a2 a3 a4 a5) ((xs.take e).drop (b + 1)) (xs.getD b []) = some f) :
    Calls Tryd.prog 64 #[.agg #[.slice A n c, .int .i64 (b : Int), .int .i64 (e : Int), .int .u64 z1, .int .u64 z2], v, .func (.method "HashChildren") #[.iface 82 (toyV a0 a1 a2 a3 a4 a5)] #[]] w fun ex w' => ∃ A' c', ex = .returned (.tuple #[.slice A' (rehL b e xs f).length c', .nilIface]) ∧ (rehL b e xs f).length ≤ c' ∧ Kd.C (Kd.slice 5 (Kd.int .u8)) w' A' (rehL b e xs f).length (rehL b e xs f) ∧ Below base w w' := by
  obtain ⟨s0, rfl⟩ := kSH_val hRow
  obtain ⟨A0, n0, c0⟩ := s0
  obtain ⟨r1, r2, r3⟩ := Kd.R_reads' hRow
  have r1 : n0 = ss.length := r1
  subst r1
  have hmax : ss.length ≤ 9223372036854775807 := r3.2.1
  subst hn
  rw [hsl] at hRow r2 hmax ⊢
  have HS0 := Aside0.mk hRow
  have HT0 := Aside0.mk hTx
  have HSL := Aside0.mk hsl
  have HBE := Aside0.mk hbe
  have HF := Aside0.mk hf
  have HBS := Aside0.mk hbase
  have HR2 := Aside0.mk r2
  have HB63 := Aside0.mk hb63
  have HE63 := Aside0.mk he63
  clear hRow hTx hbe hf hbase r2 r3 hb63 he63 hsl
  have hm := methHC a0 a1 a2 a3 a4 a5
  dsimp only [shE]
  go_enter Tryd.func64, Tryd.ntmps64
  go_wp2_with (fail)
  go_quiet (fail)
  go_wp2_with (fail)
  have BK := Aside0.mk (blk_new w (Obj.cells #[Value.slice A xs.length c, Value.int IntKind.i64 (b : Int), Value.int IntKind.i64 (e : Int), Value.int IntKind.u64 z1, Value.int IntKind.u64 z2] 112))
  have HB := Aside0.mk (below_alloc (Below.refl w.heap.size w) (Obj.cells #[Value.slice A xs.length c, Value.int IntKind.i64 (b : Int), Value.int IntKind.i64 (e : Int), Value.int IntKind.u64 z1, Value.int IntKind.u64 z2] 112))
  replace BK := Aside0.mk (blk_drewN BK.out nq)
  replace HB := Aside0.mk (pw_below_drewN HB.out nq)
  generalize (w.alloc (Obj.cells #[Value.slice A xs.length c, Value.int IntKind.i64 (b : Int), Value.int IntKind.i64 (e : Int), Value.int IntKind.u64 z1, Value.int IntKind.u64 z2] 112)).drewN nq = W at BK HB ⊢
  have HS := Aside0.mk (Kd.R_below HS0.out HB.out)
  have HTX := Aside0.mk (fun j s b h1 h2 => (HT0.out j s b h1 h2).pres (Pres5.below HB.out))
  replace HB := Aside0.mk (HB.out.mono HBS.out)
  clear HS0 HT0
  go_loopg [10, 11, 13] xs.length (fun kq v10 v11 v13 w' => ∃ (i : Nat) (out : List (List Int)) (hs : List SH), v10 = .int .i64 (out.length : Int) ∧ v11 = .int .i64 (i : Int) ∧ Aside0 (i + kq = xs.length) ∧ Aside0 (out.length ≤ i) ∧ Aside0 (i ≤ b ∨ e ≤ i ∨ e ≤ b) ∧ Aside0 (out ++ rehT b e i xs f = rehL b e xs f) ∧ Aside0 (kSH.R 27 w' base (fun _ => True) (.slice A0 xs.length c0) hs) ∧ Aside0 (hs.length = xs.length) ∧ Aside0 (∀ j, i ≤ j → hs[j]? = ss[j]?) ∧ Aside0 (∀ (j : Nat) (s : SH) (b : List Int), hs[j]? = some s → out[j]? = some b → Txt tb w' s b) ∧ Aside0 (∀ (j : Nat) (s : SH) (b : List Int), ss[j]? = some s → xs[j]? = some b → Txt tb w' s b) ∧ Aside0 (w'.heap[w.heap.size]? = some (.cells #[Value.slice A xs.length c, Value.int IntKind.i64 (b : Int), Value.int IntKind.i64 (e : Int), Value.int IntKind.u64 z1, Value.int IntKind.u64 z2] 112 (0, 0))) ∧ Aside0 (Below base w w'))
  case atStart => exact ⟨0, [], ss, rfl, rfl, ⟨by omega⟩, ⟨Nat.zero_le _⟩, ⟨.inl (Nat.zero_le _)⟩, ⟨by rw [List.nil_append, rehT_zero]⟩, HS, HSL, ⟨fun _ _ => rfl⟩, ⟨fun j s b _ h => by simp at h⟩, HTX, BK, HB⟩
  case round =>
    clear HS HTX BK HB
    obtain ⟨i, out, hs, rfl, rfl, HI, HCU, HIB, HEQ, HS, HHL, HSAME, HOUT, HTX, BK, HB⟩ := hrel
    cases gk with
    | zero =>
      have ei : i = xs.length := by have := HI.out; omega
      have heq : out = rehL b e xs f := by
        have h := HEQ.out
        have : rehT b e i xs f = [] := by
          unfold rehT
          rw [if_neg (by rintro ⟨h1, h2⟩; have := HBE.out h2; omega), List.drop_of_length_le (by omega)]
        rw [this, List.append_nil] at h
        exact h
      have hle : out.length ≤ xs.length := by have := HCU.out; omega
      have d1 : decide ((i : Int) < (xs.length : Int)) = false := decide_eq_false (by omega)
      have d2 : decide (i < xs.length) = false := decide_eq_false (by omega)
      obtain ⟨i0, hi0, _, hsz, _⟩ := info_parts info27
      have hcut := cut_to (P := Tryd.prog) 25 27 .i64 Tryd.underlying25 hi0 A0 xs.length c0 (out.length : Int) (by omega) (by omega) HR2.out
      rw [Int.toNat_natCast] at hcut
      have HC := Aside0.mk (heads_C HS.out (by rw [HHL.out]; exact hle) HOUT.out)
      have HLE := Aside0.mk (Nat.le_trans hle HR2.out)
      have HE := Aside0.mk heq
      clear heq hle ei hi0 hsz
      go_wp2
      go_ret2
      rw [← HE.out]
      exact ⟨_, _, rfl, HLE.out, HC.out, HB.out⟩
    | succ k1 =>
      have hi : i < xs.length := by have := HI.out; omega
      have hmx := hmax
      have d1 : decide ((i : Int) < (xs.length : Int)) = true := decide_eq_true (by omega)
      have d2 : decide (i < xs.length) = true := decide_eq_true hi
      obtain ⟨g0, cc, e0, hg0⟩ := kSH_form (s := (A0, xs.length, c0)) HS.out (by have := HHL.out; omega)
      simp only [Prod.mk.injEq] at e0
      obtain ⟨rfl, -, rfl⟩ := e0
      obtain ⟨⟨A1, n1, c1'⟩, hsi⟩ : ∃ s, ss[i]? = some s := ⟨_, List.getElem?_eq_getElem (by have := HSL.out; omega)⟩
      obtain ⟨x, hxi⟩ : ∃ x, xs[i]? = some x := ⟨_, List.getElem?_eq_getElem hi⟩
      have hti := HTX.out i _ _ hsi hxi
      have HXI := Aside0.mk hxi
      have hx1 := (kSH_cell HS.out ((HSAME.out i (Nat.le_refl _)).trans hsi)).1
      replace hx1 : World.cell? _ ⟨g0, i, none⟩ = some (.slice A1 n1 c1') := hx1
      obtain ⟨sc, hsc⟩ : ∃ s, hs[out.length]? = some s := ⟨_, List.getElem?_eq_getElem (by have := HHL.out; have := HCU.out; omega)⟩
      have e60 := blk_cell BK.out 1
      replace e60 : World.cell? _ ⟨w.heap.size, 1, none⟩ = some (.int .i64 (b : Int)) := e60
      have e61 := blk_cell BK.out 2
      replace e61 : World.cell? _ ⟨w.heap.size, 2, none⟩ = some (.int .i64 (e : Int)) := e61
      have l0 : 0 ≤ (i : Int) := by omega
      have l1 : (i : Int) < (xs.length : Int) := by omega
      have l2 : 0 ≤ (out.length : Int) := by omega
      have l3 : (out.length : Int) < (xs.length : Int) := by have := HCU.out; omega
      have l4 : decide ((out.length : Int) < (xs.length : Int)) = true := decide_eq_true l3
      have l5 : decide (out.length < xs.length) = true := decide_eq_true (by omega)
      have HSI := Aside0.mk hsi
      have HTI := Aside0.mk hti
      have HMX := Aside0.mk hmx
      have HG0 := Aside0.mk hg0
      have HIL := Aside0.mk hi
      by_cases hin : b ≤ i ∧ i < e
      · have hib : i = b := by have := HIB.out; omega
        subst hib
        have hbe := hin.2
        have hen := HBE.out hbe
        have g1 : decide ((i : Int) ≥ (i : Int)) = true := decide_eq_true (by omega)
        have g2 : decide ((i : Int) ≤ (i : Int)) = true := decide_eq_true (by omega)
        have g4 : decide ((i : Int) < (e : Int)) = true := decide_eq_true (by omega)
        have g5 : decide (i < e) = true := decide_eq_true hbe
        have hup := HF.out hbe
        rw [List.getD_eq_getElem?_getD, hxi, Option.getD_some] at hup
        have HUP := Aside0.mk hup
        have HBE2 := Aside0.mk hbe
        have HEN := Aside0.mk hen
        clear hin hbe hen hup hsc hsi hti hmx hg0 hi hxi
        go_wp2_with (fail)
        rename World => W1
        go_loopg [11, 13] (e - (i + 1)) (fun kq v11 v13 w' => ∃ (j : Nat) (s : SH) (t : List Int), v11 = .int .i64 (j : Int) ∧ v13 = .slice s.1 s.2.1 s.2.2 ∧ Aside0 (j + kq = e) ∧ Aside0 (i < j) ∧ Aside0 (Txt tb w' s t) ∧ Aside0 (upB_ (impl_toy_HashChildren.f k a0 a1 a2 a3 a4 a5) ((xs.take e).drop j) t = some f) ∧ Aside0 (Below W1.heap.size W1 w'))
        case atStart => exact ⟨i + 1, (A1, n1, c1'), x, rfl, rfl, ⟨by have := HBE2.out; omega⟩, ⟨by omega⟩, HTI, HUP, ⟨Below.refl _ _⟩⟩
        case round =>
          clear HTI HUP hx1 e60 e61 d1 d2 l0 l1 l2 l3 l4 l5 g1 g2 g4 g5
          obtain ⟨j, ⟨A2, n2, c2⟩, t, rfl, rfl, HJ, HIJ, HTT, HU, HB1⟩ := hrel
          dsimp only
          obtain ⟨rfl, tt2, tt3⟩ := HTT.out.read
          have HT2 := Aside0.mk tt2
          have HT3 := Aside0.mk tt3
          clear tt2 tt3
          have HS2 := Aside0.mk (Kd.R_below HS.out HB1.out)
          have BK2 := Aside0.mk (blk_below BK.out HB1.out)
          have e61 := blk_cell BK2.out 2
          replace e61 : World.cell? _ ⟨w.heap.size, 2, none⟩ = some (.int .i64 (e : Int)) := e61
          have he63 := HE63.out
          cases gk with
          | zero =>
            have ej : j = e := by have := HJ.out; omega
            subst ej
            have d1 : decide ((j : Int) < (j : Int)) = false := decide_eq_false (by omega)
            have d2 : decide (j < j) = false := decide_eq_false (by omega)
            have ht : t = f := by
              have h := HU.out
              rw [List.drop_of_length_le (by rw [List.length_take]; omega)] at h
              exact Option.some.inj h
            obtain ⟨sc, hsc⟩ : ∃ s, hs[out.length]? = some s := ⟨_, List.getElem?_eq_getElem (by have := HHL.out; have := HCU.out; have := HIL.out; omega)⟩
            obtain ⟨f1, f2⟩ := kSH_cell HS2.out hsc
            obtain ⟨s1, s2, s3⟩ := sc
            replace f1 : World.cell? _ ⟨g0, out.length, none⟩ = some (.slice s1 s2 s3) := f1
            have l2 : 0 ≤ (out.length : Int) := by omega
            have l3 : (out.length : Int) < (xs.length : Int) := by have := HCU.out; have := HIL.out; omega
            have l4 : decide ((out.length : Int) < (xs.length : Int)) = true := decide_eq_true l3
            have l5 : decide (out.length < xs.length) = true := decide_eq_true (by omega)
            have l6 : 1 ≤ (j : Int) := by have := HIJ.out; omega
            have HTF := Aside0.mk ht
            clear hsc ht
            go_wp2
            go_roundg (xs.length - j)
            case measure => have := HIJ.out; have := HI.out; omega
            case rel =>
              obtain ⟨q1, q2, q3⟩ := put_hd HS2.out out.length (A2, t.length, c2)
              have p1 := Pres5.below HB1.out
              refine ⟨j, out ++ [t], hs.set out.length (A2, t.length, c2), by rw [snoc_len], by first | rfl | (congr 1), ⟨by have := HEN.out; omega⟩, ⟨by have := HCU.out; have := HIJ.out; rw [List.length_append, List.length_singleton]; omega⟩, ⟨.inr (.inl (Nat.le_refl _))⟩, ⟨?_⟩, ⟨q1⟩, ⟨by rw [List.length_set]; exact HHL.out⟩, ⟨fun m hm => by rw [List.getElem?_set_ne (by have := HCU.out; have := HIJ.out; omega)]; exact HSAME.out m (by have := HIJ.out; omega)⟩, ⟨outs_put (by have := HHL.out; have := HCU.out; have := HIL.out; omega) (fun j s b h1 h2 => (HOUT.out j s b h1 h2).pres p1) q2 HTT.out⟩, ⟨fun j s b h1 h2 => ((HTX.out j s b h1 h2).pres p1).pres q2⟩, ⟨q3 _ _ _ (by decide) BK2.out⟩, ⟨(HB.out.trans (HB1.out.mono (Nat.le_trans HBS.out HB.out.size))).setCell (p := ⟨g0, out.length, none⟩) HG0.out _⟩⟩
              have h := HEQ.out
              rw [rehT_in f HBE2.out HEN.out] at h
              rw [HTF.out, List.append_assoc]; exact h
          | succ k2 =>
            have hje : j < e := by have := HJ.out; omega
            have hjl : j < xs.length := by have := HEN.out; omega
            have d1 : decide ((j : Int) < (e : Int)) = true := decide_eq_true (by omega)
            have d2 : decide (j < e) = true := decide_eq_true hje
            have l0 : 0 ≤ (j : Int) := by omega
            have l1 : (j : Int) < (xs.length : Int) := by omega
            have l4 : decide ((j : Int) < (xs.length : Int)) = true := decide_eq_true l1
            have l5 : decide (j < xs.length) = true := decide_eq_true hjl
            obtain ⟨⟨A3, n3, c3⟩, hsj⟩ : ∃ s, ss[j]? = some s := ⟨_, List.getElem?_eq_getElem (by have := HSL.out; omega)⟩
            obtain ⟨y, hy⟩ : ∃ y, xs[j]? = some y := ⟨_, List.getElem?_eq_getElem hjl⟩
            have hx1 := (kSH_cell HS2.out ((HSAME.out j (by have := HIJ.out; omega)).trans hsj)).1
            replace hx1 : World.cell? _ ⟨g0, j, none⟩ = some (.slice A3 n3 c3) := hx1
            obtain ⟨rfl, y2, y3⟩ := ((HTX.out j _ _ hsj hy).pres (Pres5.below HB1.out)).read
            obtain ⟨t', ht1, ht2⟩ := upB_step HU.out hje HEN.out
            rw [List.getD_eq_getElem?_getD, hy, Option.getD_some] at ht1
            have HY2 := Aside0.mk y2
            have HY3 := Aside0.mk y3
            have HT1 := Aside0.mk ht1
            have HU2 := Aside0.mk ht2
            clear hje hjl hsj hy y2 y3 ht1 ht2
            go_wp2_with (fail)
            refine (impl_toy_HashChildren.calls k a0 a1 a2 a3 a4 a5 A3 c3 y A2 c2 t t' _ HY3.out HY2.out HT3.out HT2.out HT1.out).mono ?_
            rintro ex w4 ⟨v4, rfl, hR4, hb4⟩
            dsimp only
            obtain ⟨s4, rfl⟩ := kSH_val' hR4
            obtain ⟨A4, n4, c4⟩ := s4
            have HR4 := Aside0.mk (Txt.of_R (base := tb) (s := (A4, n4, c4)) hR4 (Nat.le_trans htb (Nat.le_trans (Nat.le_trans HBS.out HB.out.size) HB1.out.size)))
            have HB4 := Aside0.mk (HB1.out.trans (hb4.mono HB1.out.size))
            clear hR4 hb4
            dsimp only [shE]
            go_wp2
            go_roundg k2
            case measure => omega
            case rel => exact ⟨j + 1, (A4, n4, c4), t', by first | rfl | (congr 1), rfl, ⟨by have := HJ.out; omega⟩, ⟨by have := HIJ.out; omega⟩, HR4, HU2, HB4⟩
      · have hp : i < b ∨ e ≤ i ∨ e ≤ b := by have := HIB.out; omega
        have HP := Aside0.mk hp
        obtain ⟨f1, f2⟩ := kSH_cell HS.out hsc
        obtain ⟨s1, s2, s3⟩ := sc
        replace f1 : World.cell? _ ⟨g0, out.length, none⟩ = some (.slice s1 s2 s3) := f1
        clear hsc hsi hti hmx hg0 hi hxi
        by_cases hb : b ≤ i
        · have g1 : decide ((i : Int) ≥ (b : Int)) = true := decide_eq_true (by omega)
          have g2 : decide ((b : Int) ≤ (i : Int)) = true := decide_eq_true (by omega)
          have g3 : decide (b ≤ i) = true := decide_eq_true hb
          have g4 : decide ((i : Int) < (e : Int)) = false := decide_eq_false (by omega)
          have g5 : decide (i < e) = false := decide_eq_false (by omega)
          clear hin hp hb
          go_wp2
          go_roundg k1
          case measure => omega
          case rel =>
            obtain ⟨q1, q2, q3⟩ := put_hd HS.out out.length (A1, n1, c1')
            refine ⟨i + 1, out ++ [x], hs.set out.length (A1, n1, c1'), by rw [snoc_len], by first | rfl | (congr 1), ⟨by have := HI.out; omega⟩, ⟨by have := HCU.out; rw [List.length_append, List.length_singleton]; omega⟩, ⟨by have := HP.out; omega⟩, ⟨?_⟩, ⟨q1⟩, ⟨by rw [List.length_set]; exact HHL.out⟩, ⟨fun j hj => by rw [List.getElem?_set_ne (by have := HCU.out; omega)]; exact HSAME.out j (by omega)⟩, ⟨outs_put (by have := HHL.out; have := HCU.out; have := HIL.out; omega) HOUT.out q2 HTI.out⟩, ⟨fun j s b h1 h2 => (HTX.out j s b h1 h2).pres q2⟩, ⟨q3 _ _ _ (by decide) BK.out⟩, ⟨HB.out.setCell (p := ⟨g0, out.length, none⟩) HG0.out _⟩⟩
            have h := HEQ.out
            rw [rehT_out f HP.out HBE.out HIL.out, List.getD_eq_getElem?_getD, HXI.out] at h
            rw [List.append_assoc]; exact h
        · have g1 : decide ((i : Int) ≥ (b : Int)) = false := decide_eq_false (by omega)
          have g2 : decide ((b : Int) ≤ (i : Int)) = false := decide_eq_false (by omega)
          have g3 : decide (b ≤ i) = false := decide_eq_false hb
          clear hin hp hb
          go_wp2
          go_roundg k1
          case measure => omega
          case rel =>
            obtain ⟨q1, q2, q3⟩ := put_hd HS.out out.length (A1, n1, c1')
            refine ⟨i + 1, out ++ [x], hs.set out.length (A1, n1, c1'), by rw [snoc_len], by first | rfl | (congr 1), ⟨by have := HI.out; omega⟩, ⟨by have := HCU.out; rw [List.length_append, List.length_singleton]; omega⟩, ⟨by have := HP.out; omega⟩, ⟨?_⟩, ⟨q1⟩, ⟨by rw [List.length_set]; exact HHL.out⟩, ⟨fun j hj => by rw [List.getElem?_set_ne (by have := HCU.out; omega)]; exact HSAME.out j (by omega)⟩, ⟨outs_put (by have := HHL.out; have := HCU.out; have := HIL.out; omega) HOUT.out q2 HTI.out⟩, ⟨fun j s b h1 h2 => (HTX.out j s b h1 h2).pres q2⟩, ⟨q3 _ _ _ (by decide) BK.out⟩, ⟨HB.out.setCell (p := ⟨g0, out.length, none⟩) HG0.out _⟩⟩
            have h := HEQ.out
            rw [rehT_out f HP.out HBE.out HIL.out, List.getD_eq_getElem?_getD, HXI.out] at h
            rw [List.append_assoc]; exact h
end Go.Proofs.YtielnphmcaecdaaDoor.PAll
namespace Go.Proofs.YtielnphmcaecdaaDoor.PAll
open Go.IntWalk Go.RowKit Go.Proofs.YtielnphmcaecdaaDoor.Num Go.Proofs.YtielnphmcaecdaaDoor.Mth Go.Proofs.YtielnphmcaecdaaDoorW.PrintWords Go.Proofs.YtielnphmcaecdaaDoorW.PrintLast Go.Proofs.YtielnphmcaecdaaDoorW.PrintMore
set_option linter.unusedVariables false
set_option linter.unusedSimpArgs false
set_option maxHeartbeats 8000000 in
set_option maxRecDepth 100000 in
theorem treeInclusion.calls (k : Nat) (a0 a1 a2 a3 a4 a5 : Int) (tb base g : Nat) (nI : Int) (H : SH) (hs : List SH) (rows : List (List SH)) (val : Nat → Nat → List Int) (i n : Nat) (hi : i < n) (hn : n < 18446744073709551616) (ss : List SH) (xs : List (List Int)) (f : List Int) (w : World) (hG : Glob w) (hbase : tb ≤ w.heap.size)
    (T : TreeAt w tb base g (.iface 82 (toyV a0 a1 a2 a3 a4 a5)) nI H hs rows val) (look : Looks ((incIds i n).map cnode) rows ss) (hxl : ss.length = xs.length) (hTx : ∀ (j : Nat) (s : SH) (b : List Int), ss[j]? = some s → xs[j]? = some b → Txt tb w s b)
    (hf : incBegin i n < incEnd i n → upB_ (impl_toy_HashChildren.f k a0 a1 a2 a3 a4 a5) ((xs.take (incEnd i n)).drop (incBegin i n + 1)) (xs.getD (incBegin i n) []) = some f) :
    Calls Tryd.prog 76 #[.pointer (some ⟨g, 0, none⟩), .int .u64 (i : Int), .int .u64 (n : Int)] w fun ex w' => ∃ A' c', ex = .returned (.tuple #[.slice A' (rehL (incBegin i n) (incEnd i n) xs f).length c', .nilIface]) ∧ (rehL (incBegin i n) (incEnd i n) xs f).length ≤ c' ∧ Kd.C (Kd.slice 5 (Kd.int .u8)) w' A' (rehL (incBegin i n) (incEnd i n) xs f).length (rehL (incBegin i n) (incEnd i n) xs f) ∧ Below tb w w' := by
  have hl := incIds_len i n hi hn
  obtain ⟨e1, e2⟩ := incIds_end i n hi hn
  have hA := fun W hW => proofInclusion.calls i n hi hn W hW
  have hlk : xs.length = (incIds i n).length := by rw [← hxl, look.1, List.length_map]
  generalize ((ndEph i 0 n).1 : Int) = z1 at hA ⊢
  generalize ((ndEph i 0 n).2 : Int) = z2 at hA ⊢
  generalize incBegin i n = b at *
  generalize incEnd i n = e at *
  obtain ⟨zl, hzl⟩ : ∃ zl, (incIds i n).map cnode = zl := ⟨_, rfl⟩
  have hzn : (incIds i n).length = zl.length := by rw [← hzl, List.length_map]
  rw [hzl] at hA look
  rw [hzn] at hl e1 hlk
  have HNA := Aside0.mk hA
  have HGL := Aside0.mk hG
  have HT := Aside0.mk T
  have HLK := Aside0.mk look
  have HXL := Aside0.mk hxl
  have HTX := Aside0.mk hTx
  have HF := Aside0.mk hf
  have HBS := Aside0.mk hbase
  have HL := Aside0.mk hl
  have HE1 := Aside0.mk e1
  have HE2 := Aside0.mk e2
  have HLN := Aside0.mk hlk
  clear hi hn hG T look hxl hTx hf hbase hl e1 e2 hA hlk hzl hzn
  go_enter Tryd.func76, Tryd.ntmps76
  go_wp2_with (fail)
  refine (HNA.out w HGL.out).mono ?_
  rintro ex w1 ⟨v, rfl, hQ, hb⟩
  dsimp only
  obtain ⟨A1, c1, rfl, hlc⟩ := Kd.Q_slice hQ
  have HQ := Aside0.mk hQ
  have HB := Aside0.mk hb
  clear hQ hb hlc
  go_wp2_with (fail)
  have BK := Aside0.mk (blk_new w1 (Obj.cells #[Value.slice A1 zl.length c1, Value.int IntKind.i64 (b : Int), Value.int IntKind.i64 (e : Int), Value.int IntKind.u64 z1, Value.int IntKind.u64 z2] 112))
  replace HQ := Aside0.mk (Kd.Q_alloc HQ.out (Obj.cells #[Value.slice A1 zl.length c1, Value.int IntKind.i64 (b : Int), Value.int IntKind.i64 (e : Int), Value.int IntKind.u64 z1, Value.int IntKind.u64 z2] 112))
  replace HB := Aside0.mk (below_alloc HB.out (Obj.cells #[Value.slice A1 zl.length c1, Value.int IntKind.i64 (b : Int), Value.int IntKind.i64 (e : Int), Value.int IntKind.u64 z1, Value.int IntKind.u64 z2] 112))
  generalize w1.alloc (Obj.cells #[Value.slice A1 zl.length c1, Value.int IntKind.i64 (b : Int), Value.int IntKind.i64 (e : Int), Value.int IntKind.u64 z1, Value.int IntKind.u64 z2] 112) = W2 at BK HQ HB ⊢
  generalize w1.heap.size = q at BK ⊢
  have hmf : ∀ (fn : Fn) (first cap : Array Value) (w : World), (Instr.makeFunc fn first cap).run Tryd.prog w = .ok (.func fn first cap) w := fun _ _ _ _ => rfl
  have t0 : W2.cell? ⟨q, 0, none⟩ = some (.slice A1 zl.length c1) := blk_cell BK.out 0
  have t1 : W2.cell? ⟨q, 1, none⟩ = some (.int .i64 (b : Int)) := blk_cell BK.out 1
  have t2 : W2.cell? ⟨q, 2, none⟩ = some (.int .i64 (e : Int)) := blk_cell BK.out 2
  have t3 : W2.cell? ⟨q, 3, none⟩ = some (.int .u64 z1) := blk_cell BK.out 3
  have t4 : W2.cell? ⟨q, 4, none⟩ = some (.int .u64 z2) := blk_cell BK.out 4
  replace HT := Aside0.mk (HT.out.below HB.out)
  have t5 : W2.cell? ⟨g, 0, none⟩ = some (.iface 82 (toyV a0 a1 a2 a3 a4 a5)) := HT.out.c0.1
  have HLT := Aside0.mk (show q < W2.heap.size from (Array.getElem?_eq_some_iff.1 BK.out).1)
  have HLG := Aside0.mk (show g < W2.heap.size from (Array.getElem?_eq_some_iff.1 HT.out.cell).1)
  have HRD := Aside0.mk (Kd.Q_reads' HQ.out)
  have HBn := Aside0.mk (Below.refl W2.heap.size W2)
  clear BK
  go_region_held_law (fun w' => w'.cell? ⟨q, 0, none⟩ = some (.slice A1 zl.length c1) ∧ w'.cell? ⟨q, 1, none⟩ = some (.int .i64 (b : Int)) ∧ w'.cell? ⟨q, 2, none⟩ = some (.int .i64 (e : Int)) ∧ w'.cell? ⟨q, 3, none⟩ = some (.int .u64 z1) ∧ w'.cell? ⟨q, 4, none⟩ = some (.int .u64 z2) ∧ w'.cell? ⟨g, 0, none⟩ = some (.iface 82 (toyV a0 a1 a2 a3 a4 a5))) (first | exact ⟨v0, v1, v2, v3, v4, v5⟩ | exact ⟨u0, u1, u2, u3, u4, u5⟩ | exact ⟨t0, t1, t2, t3, t4, t5⟩ | go_keep) (first
      | (go_simp; go_at_call 83
         have HW := Aside0.mk (show Below W2.heap.size W2 W2.drew from below_drew (Below.refl _ _))
         refine (treeGetNodes.calls tb base g _ nI H hs rows val _ (HT.out.below (by repeat (first | exact Below.refl _ _ | apply Below.drew | apply below_drew))) A1 c1 zl (Kd.C_below HRD.out.2.2 (by repeat (first | exact Below.refl _ _ | apply Below.drew | apply below_drew))) HRD.out.2.1 (by have := HL.out; omega) ss HLK.out).mono ?_
         rintro ex w3 ⟨v3, rfl, hR3, hb3⟩
         have hmv : Below W2.heap.size W2 w3 := below_step (by repeat (first | exact Below.refl _ _ | apply Below.drew | apply below_drew)) hb3
         have HR3 := Aside0.mk (Kd.R_lower hR3 (below_size (show Below W2.heap.size W2 _ by repeat (first | exact Below.refl _ _ | apply Below.drew | apply below_drew))))
         have HB3 := Aside0.mk hmv
         have u0 := (hmv.cell (p := ⟨q, 0, none⟩) HLT.out).trans t0
         have u1 := (hmv.cell (p := ⟨q, 1, none⟩) HLT.out).trans t1
         have u2 := (hmv.cell (p := ⟨q, 2, none⟩) HLT.out).trans t2
         have u3 := (hmv.cell (p := ⟨q, 3, none⟩) HLT.out).trans t3
         have u4 := (hmv.cell (p := ⟨q, 4, none⟩) HLT.out).trans t4
         have u5 := (hmv.cell (p := ⟨g, 0, none⟩) HLG.out).trans t5
         clear hR3 hb3 hmv)
      | (go_simp; go_at_call 64
         have hbw := below_step HB.out HB3.out
         refine (rehashM.calls k a0 a1 a2 a3 a4 a5 A1 c1 zl.length b e z1 z2 v3 xs ss f tb W2.heap.size _ ?b1 ?b7 HXL.out ?b2 ?b3 HLN.out ?b4 ?b5 ?b6 HF.out).mono ?_
         (case b1 => exact (below_size (by repeat (first | exact HB3.out | apply Below.drew | apply below_drew))))
         (case b7 => exact Nat.le_trans HBS.out HB.out.size)
         (case b2 => repeat (first | exact HR3.out | apply Kd.R_drewN | apply Kd.R_drew))
         (case b3 => exact fun j s b h1 h2 => (HTX.out j s b h1 h2).pres (Pres5.below (by repeat (first | exact hbw | apply Below.drew | apply below_drew))))
         (case b4 => have := HE1.out; have := HE2.out; have := HL.out; omega)
         (case b5 => have := HE1.out; have := HL.out; omega)
         (case b6 => exact fun _ => HE1.out)
         rintro ex w5 ⟨A5, c5, rfl, hl5, hC5, hb5⟩
         have hmv := Below.trans (show Below W2.heap.size W2 _ by repeat (first | exact HB3.out | apply Below.drew | apply below_drew)) hb5
         have v0 := (hmv.cell (p := ⟨q, 0, none⟩) HLT.out).trans t0
         have v1 := (hmv.cell (p := ⟨q, 1, none⟩) HLT.out).trans t1
         have v2 := (hmv.cell (p := ⟨q, 2, none⟩) HLT.out).trans t2
         have v3 := (hmv.cell (p := ⟨q, 3, none⟩) HLT.out).trans t3
         have v4 := (hmv.cell (p := ⟨q, 4, none⟩) HLT.out).trans t4
         have v5 := (hmv.cell (p := ⟨g, 0, none⟩) HLG.out).trans t5
         have HL5 := Aside0.mk hl5
         have HC5 := Aside0.mk hC5
         have HB5 := Aside0.mk ((Below.trans HB.out (hmv.mono HB.out.size)).mono HBS.out)
         clear hl5 hC5 hb5 hbw hmv)
      | fail)
  all_goals first
    | (go_step; go_wp2; go_ret2; exact ⟨_, _, rfl, HL5.out, HC5.out, HB5.out⟩)
    | (go_wp2; go_ret2; exact ⟨_, _, rfl, HL5.out, HC5.out, HB5.out⟩)
    | (go_step; go_wp2; refine ⟨rfl, _, results_tmp2 (fn := Tryd.f76) rfl _ _ _, ?_⟩; exact ⟨_, _, rfl, HL5.out, HC5.out, HB5.out⟩)
def treeIncF (k : Nat) (a0 a1 a2 a3 a4 a5 : Int) (x : List (List Int)) (i n : Nat) : Option (List (List Int)) :=
  (if incBegin i n < incEnd i n then upB_ (impl_toy_HashChildren.f k a0 a1 a2 a3 a4 a5) (((((incIds i n).map cnode).map fun id => nodeV (impl_toy_HashChildren.f k a0 a1 a2 a3 a4 a5) x id.f0.toNat id.f1.toNat).take (incEnd i n)).drop (incBegin i n + 1)) ((((incIds i n).map cnode).map fun id => nodeV (impl_toy_HashChildren.f k a0 a1 a2 a3 a4 a5) x id.f0.toNat id.f1.toNat).getD (incBegin i n) []) else some []).bind fun f =>
    impl_texts.f k (rehL (incBegin i n) (incEnd i n) (((incIds i n).map cnode).map fun id => nodeV (impl_toy_HashChildren.f k a0 a1 a2 a3 a4 a5) x id.f0.toNat id.f1.toNat) f)
def impl_TreeInclusion.f (k : Nat) (a0 a1 a2 a3 a4 a5 : Int) (l : List (List Int)) (index size : Int) : Option (List (List Int) × Bool) :=
  if l.length < 1099511627776 ∧ 0 ≤ index ∧ index < size ∧ size ≤ (l.length : Int) then (impl_texts.f k l).bind fun x =>
    if x.length < 1099511627776 ∧ allN (impl_toy_HashChildren.f k a0 a1 a2 a3 a4 a5) x x.length = true ∧ idsIn x.length ((incIds index.toNat size.toNat).map cnode) = true then (treeIncF k a0 a1 a2 a3 a4 a5 x index.toNat size.toNat).bind fun r => some (r, true) else none
  else none
theorem impl_TreeInclusion.mono : ∀ a0 a1 a2 a3 a4 a5 l index size k, LeO (impl_TreeInclusion.f k a0 a1 a2 a3 a4 a5 l index size) (impl_TreeInclusion.f (k + 1) a0 a1 a2 a3 a4 a5 l index size) := by
  intro a0 a1 a2 a3 a4 a5 l index size k
  have hF : ∀ a b, LeO (impl_toy_HashChildren.f k a0 a1 a2 a3 a4 a5 a b) (impl_toy_HashChildren.f (k + 1) a0 a1 a2 a3 a4 a5 a b) := fun a b => impl_toy_HashChildren.mono _ _ _ _ _ _ _ _ _
  unfold impl_TreeInclusion.f
  refine LeO.ite (LeO.bind (impl_texts.mono _ _) (fun x => ?_)) (LeO.refl _)
  by_cases h : x.length < 1099511627776 ∧ allN (impl_toy_HashChildren.f k a0 a1 a2 a3 a4 a5) x x.length = true ∧ idsIn x.length ((incIds index.toNat size.toNat).map cnode) = true
  case neg => rw [if_neg h]; exact LeO.none _
  have hV : ∀ i j, (j + 1) * 2 ^ i ≤ x.length → node_ (impl_toy_HashChildren.f (k + 1) a0 a1 a2 a3 a4 a5) x i j = some (nodeV (impl_toy_HashChildren.f k a0 a1 a2 a3 a4 a5) x i j) := fun i j hj => node_mono hF x i j _ (allN_some h.2.1 h.1 hj)
  have h' : x.length < 1099511627776 ∧ allN (impl_toy_HashChildren.f (k + 1) a0 a1 a2 a3 a4 a5) x x.length = true ∧ idsIn x.length ((incIds index.toNat size.toNat).map cnode) = true := ⟨h.1, List.all_eq_true.mpr (fun i _ => List.all_eq_true.mpr (fun j hj => by
    rw [hV i j (by
      have := List.mem_range.mp hj
      exact (Nat.le_div_iff_mul_le (Nat.two_pow_pos i)).mp (by omega))]; rfl)), h.2.2⟩
  rw [if_pos h, if_pos h']
  have e : (((incIds index.toNat size.toNat).map cnode).map fun id => nodeV (impl_toy_HashChildren.f (k + 1) a0 a1 a2 a3 a4 a5) x id.f0.toNat id.f1.toNat) = ((incIds index.toNat size.toNat).map cnode).map fun id => nodeV (impl_toy_HashChildren.f k a0 a1 a2 a3 a4 a5) x id.f0.toNat id.f1.toNat := by
    refine List.map_congr_left (fun id hid => ?_)
    obtain ⟨i, hi⟩ := List.getElem?_of_mem hid
    have := hV _ _ (idsIn_at h.2.2 hi).2
    unfold nodeV at this ⊢
    rw [this]; rfl
  unfold treeIncF
  rw [e]
  exact LeO.bind (LeO.bind (LeO.ite (upB_mono hF _ _) (LeO.refl _)) (fun f => impl_texts.mono _ _)) (fun _ => LeO.refl _)
set_option maxHeartbeats 16000000 in
set_option maxRecDepth 100000 in
theorem impl_TreeInclusion.calls (k : Nat) (a0 a1 a2 a3 a4 a5 : Int) (A1 : Option Addr) (c1 : Nat) (l1 : List (List Int)) (index size : Int) (r : List (List Int)) (z : Bool) (w : World) (hG : Glob w) (hr1 : Kd.C (Kd.slice 5 (Kd.int .u8)) w A1 l1.length l1) (hc1 : l1.length ≤ c1) (h : impl_TreeInclusion.f k a0 a1 a2 a3 a4 a5 l1 index size = some (r, z)) :
    Calls Tryd.prog 38 #[.agg #[.int .i64 a0, .int .i64 a1, .int .i64 a2, .int .u64 a3, .int .u64 a4, .int .u64 a5], .slice A1 l1.length c1, .int .u64 index, .int .u64 size] w fun e w' => ∃ v : Value, e = .returned (.tuple #[v, .bool z]) ∧ Kd.S (Kd.slice 5 (Kd.int .u8)) 27 w' w.heap.size (fun _ => True) v r ∧ Below w.heap.size w w' := by
  unfold impl_TreeInclusion.f at h
  by_cases hl : l1.length < 1099511627776 ∧ 0 ≤ index ∧ index < size ∧ size ≤ (l1.length : Int)
  case neg => rw [if_neg hl] at h; cases h
  rw [if_pos hl] at h
  obtain ⟨x, hx, h⟩ := Option.bind_eq_some_iff.mp h
  by_cases hal : x.length < 1099511627776 ∧ allN (impl_toy_HashChildren.f k a0 a1 a2 a3 a4 a5) x x.length = true ∧ idsIn x.length ((incIds index.toNat size.toNat).map cnode) = true
  case neg => rw [if_neg hal] at h; cases h
  rw [if_pos hal] at h
  obtain ⟨r', h3, hz⟩ := Option.bind_eq_some_iff.mp h
  have hz := Option.some.inj hz
  simp only [Prod.mk.injEq] at hz
  obtain ⟨rfl, rfl⟩ := hz
  clear h
  obtain ⟨i, rfl⟩ : ∃ i : Nat, index = (i : Int) := ⟨index.toNat, by omega⟩
  obtain ⟨n, rfl⟩ : ∃ n : Nat, size = (n : Int) := ⟨size.toNat, by omega⟩
  rw [Int.toNat_natCast, Int.toNat_natCast] at h3 hal
  unfold treeIncF at h3
  obtain ⟨X, hX⟩ : ∃ X, (((incIds i n).map cnode).map fun id => nodeV (impl_toy_HashChildren.f k a0 a1 a2 a3 a4 a5) x id.f0.toNat id.f1.toNat) = X := ⟨_, rfl⟩
  rw [hX] at h3
  obtain ⟨f, hf, h⟩ := Option.bind_eq_some_iff.mp h3
  have HXX := Aside0.mk hX
  clear h3 hX
  have hin : i < n := by omega
  have hn64 : n < 18446744073709551616 := by omega
  have hw : IntKind.u64.wrap (l1.length : Int) = (l1.length : Int) := u64in (by omega)
  have b0 : decide ((n : Int) > IntKind.u64.wrap (l1.length : Int)) = false := decide_eq_false (by rw [hw]; omega)
  have b1 : decide (IntKind.u64.wrap (l1.length : Int) < (n : Int)) = false := decide_eq_false (by rw [hw]; omega)
  have b2 : decide ((i : Int) ≥ (n : Int)) = false := decide_eq_false (by omega)
  have b3 : decide ((n : Int) ≤ (i : Int)) = false := decide_eq_false (by omega)
  have b4 : decide (n ≤ i) = false := decide_eq_false (by omega)
  clear hw
  have HX := Aside0.mk hx
  have HAL := Aside0.mk hal
  have HR1 := Aside0.mk hr1
  have HC1 := Aside0.mk hc1
  have HF := Aside0.mk hf
  have H := Aside0.mk h
  have HG := Aside0.mk hG
  have HIN := Aside0.mk hin
  have HN := Aside0.mk hn64
  clear hl hx hal h hf hr1 hc1 hG hin hn64
  go_enter Tryd.func38, Tryd.ntmps38
  go_wp2_with (fail)
  refine (treeNew.calls _ _).mono ?_
  rintro e w1 ⟨rfl, rfl⟩
  dsimp only
  obtain ⟨W0, hW0⟩ : ∃ W0, w.alloc (Obj.cells #[.int .i64 a0, .int .i64 a1, .int .i64 a2, .int .u64 a3, .int .u64 a4, .int .u64 a5] 24) = W0 := ⟨_, rfl⟩
  rw [hW0]
  have HB0 := Aside0.mk (show Below w.heap.size w W0 by rw [← hW0]; exact below_alloc (Below.refl _ _) _)
  clear hW0
  obtain ⟨W1, hW1⟩ : ∃ W1, W0.alloc (Obj.cells #[.iface 82 (toyV a0 a1 a2 a3 a4 a5), .int .u64 0, .slice none 0 0] 137) = W1 := ⟨_, rfl⟩
  have hW1' : W0.alloc (Obj.cells #[.iface 82 (.agg #[.int .i64 a0, .int .i64 a1, .int .i64 a2, .int .u64 a3, .int .u64 a4, .int .u64 a5]), .int .u64 0, .slice none 0 0] 137) = W1 := hW1
  rw [hW1']
  have bk := Aside0.mk (show W1.heap[W0.heap.size]? = some (.cells #[.iface 82 (toyV a0 a1 a2 a3 a4 a5), .int .u64 0, .slice none 0 0] 137 (0, 0)) by rw [← hW1]; exact blk_new W0 _)
  have HB1 := Aside0.mk (show Below w.heap.size w W1 by rw [← hW1]; exact below_alloc HB0.out _)
  have HGE := Aside0.mk (show w.heap.size ≤ W0.heap.size from HB0.out.size)
  have HGL := Aside0.mk (show W0.heap.size < W1.heap.size from (Array.getElem?_eq_some_iff.1 bk.out).1)
  clear hW1 hW1'
  generalize W0.heap.size = g at bk HGE HGL ⊢
  go_wp2_with (fail)
  refine (impl_texts.calls k A1 c1 l1 x W1 (Kd.C_below HR1.out HB1.out) HC1.out HX.out).mono ?_
  rintro e w2 ⟨v2, rfl, hS, hb⟩
  obtain ⟨A2, c2, e2⟩ := Kd.S_slice hS
  subst e2
  have HB2 := Aside0.mk (HB1.out.trans (hb.mono HB1.out.size))
  have bk2 := Aside0.mk ((hb.block g HGL.out).trans bk.out)
  obtain ⟨ss, hsl, hRw, hTx⟩ := rows_SH (Kd.S_R hS)
  have HSL := Aside0.mk hsl
  have HRw := Aside0.mk (show Rw w2 w.heap.size (.slice A2 x.length c2) ss from Kd.R_lower hRw HB1.out.size)
  have HTx := Aside0.mk (show ∀ (j : Nat) (s : SH), ss[j]? = some s → Txt w.heap.size w2 s (nodeV (impl_toy_HashChildren.f k a0 a1 a2 a3 a4 a5) x 0 j) from fun j s hj => by
    have hjl : j < x.length := by have := (List.getElem?_eq_some_iff.1 hj).1; omega
    have h1 := hTx j s _ hj (List.getElem?_eq_getElem hjl)
    have e : nodeV (impl_toy_HashChildren.f k a0 a1 a2 a3 a4 a5) x 0 j = x[j] := by
      unfold nodeV node_
      rw [List.getElem?_eq_getElem hjl]; rfl
    rw [e]
    exact Txt.of_R h1 HB1.out.size)
  clear hS hb hsl hRw hTx bk HB1
  dsimp only
  have HV := Aside0.mk (show ∀ m i, m < x.length → (∀ j, j ≤ i → m / 2 ^ j % 2 = 1) → impl_toy_HashChildren.f k a0 a1 a2 a3 a4 a5 (nodeV (impl_toy_HashChildren.f k a0 a1 a2 a3 a4 a5) x i (m / 2 ^ i - 1)) (nodeV (impl_toy_HashChildren.f k a0 a1 a2 a3 a4 a5) x i (m / 2 ^ i)) = some (nodeV (impl_toy_HashChildren.f k a0 a1 a2 a3 a4 a5) x (i + 1) (m / 2 ^ (i + 1))) from fun m i hm hb => node_step HAL.out.2.1 HAL.out.1 hm hb)
  go_wp2_with (fail)
  refine (treeAppend.calls k a0 a1 a2 a3 a4 a5 w.heap.size g (nodeV (impl_toy_HashChildren.f k a0 a1 a2 a3 a4 a5) x) A2 c2 ss x.length w2 HB2.out.size (Array.getElem?_eq_some_iff.1 bk2.out).1 HAL.out.1 HSL.out ⟨bk2.out, Kd.R_nil _ _ _ _ _, rfl, fun i h hi => by simp at hi, fun i j h h' b hi => by simp at hi, fun i j rs s hi => by simp at hi⟩ HRw.out HTx.out HV.out).mono ?_
  rintro e w3 ⟨rfl, hGr⟩
  obtain ⟨H3, hs3, rows3, hT3, hlen3, hmid3, hF3, hP3⟩ := hGr
  have HT3 := Aside0.mk hT3
  have HLEN3 := Aside0.mk hlen3
  have HMID3 := Aside0.mk hmid3
  have HB3 := Aside0.mk (show Below w.heap.size w w3 from HB2.out.trans (hF3.below HB2.out.size HGE.out))
  clear hT3 hlen3 hmid3 hF3 hP3
  dsimp only
  have HLK := Aside0.mk (looks_of HT3.out.len HLEN3.out HMID3.out HAL.out.2.2)
  go_wp2_with (fail)
  refine (treeInclusion.calls k a0 a1 a2 a3 a4 a5 w.heap.size w2.heap.size g _ H3 hs3 rows3 _ i n HIN.out HN.out _ X f w3 (HG.out.below HB3.out) HB3.out.size HT3.out HLK.out (by rw [← HXX.out]; simp only [List.length_map]) (by rw [← HXX.out]; exact looks_txt HT3.out HLK.out) (fun hbe => by have := HF.out; rw [if_pos hbe] at this; exact this)).mono ?_
  have HH := H.out
  clear H
  generalize rehL (incBegin i n) (incEnd i n) X f = Y at HH ⊢
  have H := Aside0.mk HH
  clear HH
  rintro e w4 ⟨A4, c4, rfl, hl4, hC4, hb4⟩
  have HL4 := Aside0.mk hl4
  have HC4 := Aside0.mk hC4
  have HB4 := Aside0.mk (HB3.out.trans hb4)
  clear hl4 hC4 hb4
  dsimp only
  go_wp2_with (fail)
  clear HIN HN HXX HT3 HLEN3 HMID3 HLK HV HRw HTx HSL bk2 HB2 HGE HGL HB0 HAL HF HX HR1 HC1 b0 b1 b2 b3 b4 HG
  go_region_law (first
    | (go_simp; go_at_call 45
       refine (impl_texts.calls k A4 c4 Y r' _ ?s1 HL4.out H.out).mono ?_
       (case s1 => repeat (first | exact HC4.out | (refine Kd.C_drewN ?_ _) | (refine Kd.C_drew ?_)))
       rintro ex w6 ⟨v6, rfl, hS6, hb6⟩
       have HS6 := Aside0.mk (Kd.S_lower hS6 (below_size (show Below w.heap.size w _ by repeat (first | exact HB4.out | apply Below.drew | apply below_drew))))
       have HB6 := Aside0.mk (below_step (show Below w.heap.size w _ by repeat (first | exact HB4.out | apply Below.drew | apply below_drew)) hb6)
       clear hS6 hb6)
    | fail)
  all_goals
    go_step
    simp [Act.put]
    go_step
    go_wp2
    go_ret2
    exact ⟨_, rfl, HS6.out, HB6.out⟩
end Go.Proofs.YtielnphmcaecdaaDoor.PAll
namespace Go.Proofs.YtielnphmcaecdaaDoor.PAll
open Go.RowKit Go.Proofs.YtielnphmcaecdaaDoorW.PrintWords Go.Proofs.YtielnphmcaecdaaDoorW.PrintLast Go.Proofs.YtielnphmcaecdaaDoorW.PrintMore
set_option linter.unusedVariables false
def TxC (w : World) (v : Value) (s : List Int) : Prop := ∃ A c, v = .slice A s.length c ∧ s.length ≤ c ∧ Kd.C (Kd.int .u8) w A s.length s
theorem TxC.of_R {w : World} {B : Nat} {ok : Nat → Prop} {v : Value} {s : List Int} (h : Kd.R (Kd.int .u8) 5 w B ok v s) : TxC w v s := by
  obtain ⟨A, c, rfl⟩ := Kd.R_slice h
  obtain ⟨_, hc, hC⟩ := Kd.R_reads' h
  exact ⟨A, c, rfl, hc, hC⟩
theorem TxC.below {w w' : World} {v : Value} {s : List Int} (h : TxC w v s) (hb : Below w.heap.size w w') : TxC w' v s := by
  obtain ⟨A, c, rfl, hc, hC⟩ := h
  exact ⟨A, c, rfl, hc, Kd.C_below hC hb⟩
def up_ (H : List Int → List Int → Option (List Int)) (idx : Int) : List (List Int) → Nat → List Int → Option (List Int)
  | [], _, s => some s
  | x :: xs, i, s => (if Go.bits .and .u64 (shr .u64 idx (i : Int)) 1 = 0 then H s x else H x s).bind fun t => up_ H idx xs (i + 1) t
theorem vdrop_rd {l : List (List Int)} {i : Nat} (h : i < l.length) : l.drop i = rd_L1 l (i : Int) :: l.drop (i + 1) := by
  rw [List.drop_eq_getElem_cons h]
  congr 1
  show _ = l.getD i []
  rw [List.getD_eq_getElem?_getD, List.getElem?_eq_getElem h]; rfl
theorem vnxt {i : Nat} (h : i < 9223372036854775807) : wrap64 ((i : Int) + 1) = ((i + 1 : Nat) : Int) := by unfold wrap64; omega
set_option maxHeartbeats 8000000 in
set_option maxRecDepth 100000 in
theorem chainInner.calls (k : Nat) (a0 a1 a2 a3 a4 a5 : Int) (v : Value) (s : List Int) (A : Option Addr) (c : Nat) (l : List (List Int)) (idx : Int) (r : List Int) (w : World) (hs : TxC w v s) (hr : Kd.C (Kd.slice 5 (Kd.int .u8)) w A l.length l) (hc : l.length ≤ c)
    (h : up_ (impl_toy_HashChildren.f k a0 a1 a2 a3 a4 a5) idx l 0 s = some r) :
    Calls Tryd.prog 106 #[.iface 82 (.agg #[.int .i64 a0, .int .i64 a1, .int .i64 a2, .int .u64 a3, .int .u64 a4, .int .u64 a5]), v, .slice A l.length c, .int .u64 idx] w fun e w' => ∃ v0_, e = .returned v0_ ∧ TxC w' v0_ r ∧ Below w.heap.size w w' := by
  have HL := Aside0.mk hr.2.1
  have HR := Aside0.mk hr
  have HC := Aside0.mk hc
  have HS := Aside0.mk hs
  have H := Aside0.mk h
  clear hr hc hs h
  have hm := methHC a0 a1 a2 a3 a4 a5
  go_enter Tryd.func106, Tryd.ntmps106
  go_wp2
  try simp only [Act.put, List.setIfInBounds_toArray, List.set_cons_zero, List.set_cons_succ]
  go_loopg [1, 13] l.length (fun kq v1 v13 w' => ∃ (i : Nat) (s1 : List Int), v13 = .int .i64 (i : Int) ∧ Aside0 (i + kq = l.length) ∧ Aside0 (TxC w' v1 s1) ∧ Aside0 (up_ (impl_toy_HashChildren.f k a0 a1 a2 a3 a4 a5) idx (l.drop i) i s1 = some r) ∧ Aside0 (Below w.heap.size w w'))
  case atStart => exact ⟨0, s, rfl, ⟨by omega⟩, HS, H, ⟨Below.refl _ _⟩⟩
  case round =>
    clear HS H
    obtain ⟨i, s1, rfl, HI, HS, H, HB⟩ := hrel
    cases gk with
    | zero =>
      have ei : i = l.length := by have := HI.out; omega
      subst ei
      have hr := H.out
      rw [List.drop_of_length_le (Nat.le_refl _)] at hr
      obtain rfl := Option.some.inj hr
      go_wp2
      go_ret
      exact ⟨_, rfl, HS.out, HB.out⟩
    | succ k1 =>
      have hi : i < l.length := by have := HI.out; omega
      have hd := H.out
      rw [vdrop_rd hi] at hd
      have c1 : decide (i < l.length) = true := decide_eq_true hi
      have c2 : decide ((i : Int) < (l.length : Int)) = true := decide_eq_true (by omega)
      obtain ⟨ad, A1, d1, e1, hx1, hl1, hi1⟩ := at_L1 HR.out (i : Int) (by omega) (by omega)
      cases e1
      have hx1' : w.cell? (ad.add i) = some (.slice A1 (rd_L1 l (i : Int)).length d1) := hx1
      have hx2 := (HB.out.cell (World.block_lt_of_cell? w _ hx1')).trans hx1'
      have hi64 : i < 9223372036854775807 := by have := HL.out; omega
      obtain ⟨As, cs, rfl, hcs, hCs⟩ := HS.out
      have HCS := Aside0.mk hcs
      have HCR := Aside0.mk hCs
      have HX := Aside0.mk (Kd.C_below hi1 HB.out)
      have HXL := Aside0.mk hl1
      clear hcs hCs hi1 hl1
      rw [up_] at hd
      obtain ⟨t, ht, hd⟩ := Option.bind_eq_some_iff.mp hd
      have HD := Aside0.mk hd
      by_cases c9 : Go.bits .and .u64 (shr .u64 idx (i : Int)) 1 = 0
      · rw [if_pos c9] at ht
        have b9 : (Go.bits .and .u64 (idx / 2 ^ min i 64) 1 == 0) = true := beq_iff_eq.mpr c9
        have HT := Aside0.mk ht
        clear ht hd c9
        go_wp2_with (fail)
        refine (impl_toy_HashChildren.calls k a0 a1 a2 a3 a4 a5 As cs s1 A1 d1 (rd_L1 l (i : Int)) t _ HCR.out HCS.out HX.out HXL.out HT.out).mono ?_
        rintro e w4 ⟨v4, rfl, hR4, hb⟩
        have HR4 := Aside0.mk (TxC.of_R hR4)
        have HB4 := Aside0.mk (HB.out.trans (hb.mono HB.out.size))
        clear hR4 hb
        dsimp only
        go_wp2
        go_roundg k1
        case measure => omega
        case rel => exact ⟨i + 1, t, by first | rfl | (rw [vnxt hi64]) | (congr 1), ⟨by have := HI.out; omega⟩, HR4, HD, HB4⟩
      · rw [if_neg c9] at ht
        have b9 : (Go.bits .and .u64 (idx / 2 ^ min i 64) 1 == 0) = false := beq_eq_false_iff_ne.mpr c9
        have HT := Aside0.mk ht
        clear ht hd c9
        go_wp2_with (fail)
        refine (impl_toy_HashChildren.calls k a0 a1 a2 a3 a4 a5 A1 d1 (rd_L1 l (i : Int)) As cs s1 t _ HX.out HXL.out HCR.out HCS.out HT.out).mono ?_
        rintro e w4 ⟨v4, rfl, hR4, hb⟩
        have HR4 := Aside0.mk (TxC.of_R hR4)
        have HB4 := Aside0.mk (HB.out.trans (hb.mono HB.out.size))
        clear hR4 hb
        dsimp only
        go_wp2
        go_roundg k1
        case measure => omega
        case rel => exact ⟨i + 1, t, by first | rfl | (rw [vnxt hi64]) | (congr 1), ⟨by have := HI.out; omega⟩, HR4, HD, HB4⟩
set_option maxHeartbeats 8000000 in
set_option maxRecDepth 100000 in
theorem chainBorder.calls (k : Nat) (a0 a1 a2 a3 a4 a5 : Int) (v : Value) (s : List Int) (A : Option Addr) (c : Nat) (l : List (List Int)) (r : List Int) (w : World) (hs : TxC w v s) (hr : Kd.C (Kd.slice 5 (Kd.int .u8)) w A l.length l) (hc : l.length ≤ c)
    (h : upB_ (impl_toy_HashChildren.f k a0 a1 a2 a3 a4 a5) l s = some r) :
    Calls Tryd.prog 105 #[.iface 82 (.agg #[.int .i64 a0, .int .i64 a1, .int .i64 a2, .int .u64 a3, .int .u64 a4, .int .u64 a5]), v, .slice A l.length c] w fun e w' => ∃ v0_, e = .returned v0_ ∧ TxC w' v0_ r ∧ Below w.heap.size w w' := by
  have HL := Aside0.mk hr.2.1
  have HR := Aside0.mk hr
  have HC := Aside0.mk hc
  have HS := Aside0.mk hs
  have H := Aside0.mk h
  clear hr hc hs h
  have hm := methHC a0 a1 a2 a3 a4 a5
  go_enter Tryd.func105, Tryd.ntmps105
  go_wp2
  try simp only [Act.put, List.setIfInBounds_toArray, List.set_cons_zero, List.set_cons_succ]
  go_loopg [1, 11] l.length (fun kq v1 v11 w' => ∃ (i : Nat) (s1 : List Int), v11 = .int .i64 (i : Int) ∧ Aside0 (i + kq = l.length) ∧ Aside0 (TxC w' v1 s1) ∧ Aside0 (upB_ (impl_toy_HashChildren.f k a0 a1 a2 a3 a4 a5) (l.drop i) s1 = some r) ∧ Aside0 (Below w.heap.size w w'))
  case atStart => exact ⟨0, s, rfl, ⟨by omega⟩, HS, H, ⟨Below.refl _ _⟩⟩
  case round =>
    clear HS H
    obtain ⟨i, s1, rfl, HI, HS, H, HB⟩ := hrel
    cases gk with
    | zero =>
      have ei : i = l.length := by have := HI.out; omega
      subst ei
      have hr := H.out
      rw [List.drop_of_length_le (Nat.le_refl _)] at hr
      obtain rfl := Option.some.inj hr
      go_wp2
      go_ret
      exact ⟨_, rfl, HS.out, HB.out⟩
    | succ k1 =>
      have hi : i < l.length := by have := HI.out; omega
      have hd := H.out
      rw [vdrop_rd hi] at hd
      have c1 : decide (i < l.length) = true := decide_eq_true hi
      have c2 : decide ((i : Int) < (l.length : Int)) = true := decide_eq_true (by omega)
      obtain ⟨ad, A1, d1, e1, hx1, hl1, hi1⟩ := at_L1 HR.out (i : Int) (by omega) (by omega)
      cases e1
      have hx1' : w.cell? (ad.add i) = some (.slice A1 (rd_L1 l (i : Int)).length d1) := hx1
      have hx2 := (HB.out.cell (World.block_lt_of_cell? w _ hx1')).trans hx1'
      have hi64 : i < 9223372036854775807 := by have := HL.out; omega
      obtain ⟨As, cs, rfl, hcs, hCs⟩ := HS.out
      have HCS := Aside0.mk hcs
      have HCR := Aside0.mk hCs
      have HX := Aside0.mk (Kd.C_below hi1 HB.out)
      have HXL := Aside0.mk hl1
      clear hcs hCs hi1 hl1
      rw [upB_] at hd
      obtain ⟨t, ht, hd⟩ := Option.bind_eq_some_iff.mp hd
      have HD := Aside0.mk hd
      have HT := Aside0.mk ht
      clear ht hd
      go_wp2_with (fail)
      refine (impl_toy_HashChildren.calls k a0 a1 a2 a3 a4 a5 A1 d1 (rd_L1 l (i : Int)) As cs s1 t _ HX.out HXL.out HCR.out HCS.out HT.out).mono ?_
      rintro e w4 ⟨v4, rfl, hR4, hb⟩
      have HR4 := Aside0.mk (TxC.of_R hR4)
      have HB4 := Aside0.mk (HB.out.trans (hb.mono HB.out.size))
      clear hR4 hb
      dsimp only
      go_wp2
      go_roundg k1
      case measure => omega
      case rel => exact ⟨i + 1, t, by first | rfl | (rw [vnxt hi64]) | (congr 1), ⟨by have := HI.out; omega⟩, HR4, HD, HB4⟩
end Go.Proofs.YtielnphmcaecdaaDoor.PAll
namespace Go.Proofs.YtielnphmcaecdaaDoor.PAll
open Go.IntWalk Go.RowKit Go.Proofs.YtielnphmcaecdaaDoorW.PrintWords Go.Proofs.YtielnphmcaecdaaDoorW.PrintLast Go.Proofs.YtielnphmcaecdaaDoorW.PrintMore
set_option linter.unusedVariables false
set_option linter.unusedSimpArgs false
def vmat (c e : List Int) : Int × List Int := if ((strOfNums c).toList == (strOfNums e).toList) = true then (0, []) else (1, c)
def OutV (w : World) (o : Int × List Int) (x : Value) : Prop :=
  (o = (0, []) ∧ x = .nilIface) ∨ (o = (2, []) ∧ ∃ a, x = .iface 173 (.pointer (some a))) ∨ (o.1 = 1 ∧ ∃ Ae ne ce A c, x = .iface 163 (.agg #[.slice Ae ne ce, .slice A o.2.length c]) ∧ o.2.length ≤ c ∧ Kd.C (Kd.int .u8) w A o.2.length o.2)
set_option maxHeartbeats 8000000 in
set_option maxRecDepth 100000 in
theorem verifyMatch.calls (A0 : Option Addr) (c0 : Nat) (l0 : List Int) (A1 : Option Addr) (c1 : Nat) (l1 : List Int) (w : World) (hr0 : Kd.C (Kd.int .u8) w A0 l0.length l0) (hc0 : l0.length ≤ c0) (hr1 : Kd.C (Kd.int .u8) w A1 l1.length l1) (hc1 : l1.length ≤ c1) :
    Calls Tryd.prog 102 #[.slice A0 l0.length c0, .slice A1 l1.length c1] w fun e w' => ∃ x, e = .returned x ∧ OutV w' (vmat l0 l1) x ∧ Below w.heap.size w w' := by
  have HR0 := Aside0.mk hr0
  have HR1 := Aside0.mk hr1
  have HC0 := Aside0.mk hc0
  have HC1 := Aside0.mk hc1
  clear hr0 hc0 hr1 hc1
  have HE := bytes_Equal.calls A0 c0 l0 A1 c1 l1 ((strOfNums l0).toList == (strOfNums l1).toList) w HR0.out HC0.out HR1.out HC1.out rfl
  unfold vmat
  generalize ((strOfNums l0).toList == (strOfNums l1).toList) = b at HE ⊢
  go_enter Tryd.func102, Tryd.ntmps102
  go_wp2_with (fail)
  refine HE.mono ?_
  rintro e w1 ⟨rfl, ⟨nd, rfl⟩⟩
  dsimp only
  cases b
  · go_wp2
    go_ret
    exact ⟨_, rfl, Or.inr (Or.inr ⟨rfl, _, _, _, _, _, rfl, HC0.out, Kd.C_drewN HR0.out _⟩), pw_below_drewN (Below.refl _ _) _⟩
  · go_wp2
    go_ret
    exact ⟨_, rfl, Or.inl ⟨rfl, rfl⟩, pw_below_drewN (Below.refl _ _) _⟩
theorem nil5 (w W : World) (hb : w.heap.size ≤ W.heap.size) (g : Nat) (hg : g = W.heap.size) : Kd.R (Kd.int .u8) 5 (W.alloc (Obj.cells #[] 5)) w.heap.size (fun _ => True) (.slice (some ⟨g, 0, none⟩) 0 0) [] := by
  subst hg
  exact Kd.R_of_own (enc := Value.int .u8) (xs := ([] : List Int)) ⟨rfl, .inr ⟨W.heap.size, 0, #[], rfl, hb, blk_new W _, Nat.le_refl _, by decide, rfl, rfl⟩⟩ (fun _ _ => trivial)
@[local go_sem] theorem as163 (v : Value) (w : World) : (Instr.typeAssert (.iface 163 v) 95 163 true).run Tryd.prog w = .ok (.tuple #[v, .bool true]) w := by kernel_rfl
@[local go_sem] theorem as173 (v : Value) (w : World) : (Instr.typeAssert (.iface 173 v) 95 163 true).run Tryd.prog w = .ok (.tuple #[.agg #[.slice none 0 0, .slice none 0 0], .bool false]) w := by kernel_rfl
set_option maxHeartbeats 8000000 in
set_option maxRecDepth 100000 in
theorem verdict.calls (o : Int × List Int) (x : Value) (w : World) (h : OutV w o x) (hlen : o.2.length < 140737488355328) :
    Calls Tryd.prog 74 #[x] w fun e w' => ∃ v, e = .returned (.tuple #[.int .i64 o.1, v]) ∧ Kd.R (Kd.int .u8) 5 w' w.heap.size (fun _ => True) v o.2 ∧ Below w.heap.size w w' := by
  rcases h with ⟨rfl, rfl⟩ | ⟨rfl, a, rfl⟩ | ⟨h1, Ae, ne, ce, A, c, rfl, hc, hr⟩
  · go_enter Tryd.func74, Tryd.ntmps74
    go_wp2
    refine ⟨rfl, _, results_tmp2 (fn := Tryd.f74) rfl _ _ _, ?_⟩
    exact ⟨_, rfl, Kd.R_nil _ _ _ _ _, Below.refl _ _⟩
  · go_enter Tryd.func74, Tryd.ntmps74
    go_wp2
    refine ⟨rfl, _, results_tmp2 (fn := Tryd.f74) rfl _ _ _, ?_⟩
    exact ⟨_, rfl, Kd.R_nil _ _ _ _ _, by repeat (first | exact Below.refl _ _ | apply below_alloc | apply pw_below_drewN | apply below_drew1)⟩
  · obtain ⟨o1, o2⟩ := o
    dsimp only at h1 hr hc hlen ⊢
    subst h1
    have HR := Aside0.mk hr
    have HC := Aside0.mk hc
    have HL := Aside0.mk hlen
    clear hr hc hlen
    go_enter Tryd.func74, Tryd.ntmps74
    go_wp2_with (first
      | ((with_reducible refine gate_builtin (b := .append) (xs := #[.tmp 14, .tmp 16]) rfl ?_); at_builtin
         refine Kd.R_append_rows (Kd.int .u8) (w0 := w) w.heap.size rfl (.tmp 14) (.tmp 16) 27 5 (.int .u8 0) 1 rfl Tryd.underlying27 info5 rfl (by decide) (by omega) _ ([] : List Int) o2 _ _ _ (fun _ => True) (fun _ => False) rfl rfl ?aO ?aR (fun _ _ h => h) (fun _ h => h.elim) ?aF ?aB ?aS ?aL ?_
         (case aO => exact nil5 w (w.alloc _) (Nat.le_of_lt (by simp)) _ (by simp))
         (case aR => exact Kd.C_alloc (Kd.C_alloc HR.out _) _)
         (case aF => exact fun _ _ => trivial)
         (case aB => exact below_alloc (below_alloc (Below.refl _ _) _) _)
         (case aS => simp; omega)
         (case aL => have := HL.out; simp only [List.length_nil]; omega)
         intro v1 w1 hR1 hB1 hg1 hn1
         have HV1 := Aside0.mk hR1
         have HB1 := Aside0.mk hB1
         clear hR1 hB1 hg1 hn1))
    refine ⟨rfl, _, results_tmp2 (fn := Tryd.f74) rfl _ _ _, ?_⟩
    exact ⟨_, rfl, HV1.out, HB1.out⟩
end Go.Proofs.YtielnphmcaecdaaDoor.PAll
