-- Written by a program of this session (wip/tools)
import Derived.Test.YtielnphmcaecdaaDoorQTTExtTreeB
import Derived.Outline
import Derived.Deep.QuietTactic
import Derived.BigQuiet
import Derived.Deep.RegionWith
import Derived.Deep.RegionLaw
import Derived.IntWalk
import Derived.Test.YtielnphmcaecdaaDoorQTTExtTz
set_option maxHeartbeats 8000000
set_option maxRecDepth 100000
set_option linter.unusedVariables false
set_option linter.unusedSimpArgs false
namespace Go.Proofs.YtielnphmcaecdaaDoor.PAll
open Go.IntWalk Go.RowKit Go.Proofs.YtielnphmcaecdaaDoorW.PrintWords Go.Proofs.YtielnphmcaecdaaDoorW.PrintLast Go.Proofs.YtielnphmcaecdaaDoorW.PrintMore
def upB_ (H : List Int → List Int → Option (List Int)) : List (List Int) → List Int → Option (List Int)
 | [], s => some s
 | x :: xs, s => (H x s).bind fun t => upB_ H xs t
def rehL (b e : Nat) (xs : List (List Int)) (f : List Int) : List (List Int) := if b < e then xs.take b ++ f :: xs.drop e else xs
def rehT (b e i : Nat) (xs : List (List Int)) (f : List Int) : List (List Int) := if i ≤ b ∧ b < e then (xs.take b).drop i ++ f :: xs.drop e else xs.drop i
theorem rehT_zero (b e : Nat) (xs : List (List Int)) (f : List Int) : rehT b e 0 xs f = rehL b e xs f := by
 unfold rehT rehL
 by_cases h : b < e
 ·rw [if_pos ⟨Nat.zero_le _, h⟩, if_pos h, List.drop_zero]
 ·rw [if_neg (fun h2 => h h2.2), if_neg h, List.drop_zero]
theorem rehT_in {b e : Nat} {xs : List (List Int)} (f : List Int) (h : b < e) (he : e ≤ xs.length) : rehT b e b xs f = f :: rehT b e e xs f := by
 unfold rehT
 rw [if_pos ⟨Nat.le_refl _, h⟩, if_neg (by omega), List.drop_eq_nil_of_le (by rw [List.length_take]; omega)]; rfl
theorem rehT_out {b e i : Nat} {xs : List (List Int)} (f : List Int) (h : i < b ∨ e ≤ i ∨ e ≤ b) (hbe : b < e → e ≤ xs.length) (hi : i < xs.length) : rehT b e i xs f = xs.getD i [] :: rehT b e (i + 1) xs f := by
 unfold rehT
 rw [List.getD_eq_getElem?_getD, List.getElem?_eq_getElem hi, Option.getD_some]
 by_cases hc : i < b ∧ b < e
 ·rw [if_pos ⟨by omega, hc.2⟩, if_pos ⟨by omega, hc.2⟩]
  have := hbe hc.2
  rw [List.drop_eq_getElem_cons (show i < (xs.take b).length by rw [List.length_take]; omega), List.getElem_take]; rfl
 ·by_cases h2 : i ≤ b ∧ b < e
  ·omega
  ·rw [if_neg h2, if_neg (by omega), List.drop_eq_getElem_cons hi]
theorem upB_step {H : List Int → List Int → Option (List Int)} {xs : List (List Int)} {j e : Nat} {s f : List Int} (h : upB_ H ((xs.take e).drop j) s = some f) (hj : j < e) (he : e ≤ xs.length) :
 ∃ t, H (xs.getD j []) s = some t ∧ upB_ H ((xs.take e).drop (j + 1)) t = some f := by
 rw [List.drop_eq_getElem_cons (show j < (xs.take e).length by rw [List.length_take]; omega), upB_] at h
 obtain ⟨t, h1, h2⟩ := Option.bind_eq_some_iff.1 h
 refine ⟨t, ?_, h2⟩
 rw [List.getD_eq_getElem?_getD, List.getElem?_eq_getElem (by omega), Option.getD_some, ← h1, List.getElem_take]
theorem heads_C {w : World} {base B : Nat} {A : Option Addr} {n c : Nat} {ok : Nat → Prop} {hs : List SH} {out : List (List Int)} (h : kSH.R 27 w base ok (.slice A n c) hs) (hl : out.length ≤ hs.length)
 (ht : ∀ (j : Nat) (s : SH) (b : List Int), hs[j]? = some s → out[j]? = some b → Txt B w s b) : Kd.C (Kd.slice 5 (Kd.int .u8)) w A out.length out := by
 obtain ⟨h1, h2, h3⟩ := Kd.R_reads' h
 refine ⟨rfl, Nat.le_trans hl h3.2.1, fun hp => ?_⟩
 obtain ⟨ad, e, hc⟩ := h3.2.2 (by omega)
 refine ⟨ad, e, fun j b hj => ?_⟩
 have hjl : j < hs.length := by have := (List.getElem?_eq_some_iff.1 hj).1; omega
 obtain ⟨⟨As, ns, c1⟩, hsj⟩ : ∃ s, hs[j]? = some s := ⟨_, List.getElem?_eq_getElem hjl⟩
 obtain ⟨cs, k1, k2, k3⟩ := hc j _ hsj
 obtain ⟨t1, t2, t3⟩ := (ht j _ b hsj hj).read
 refine ⟨cs, k1, ⟨As, c1, ?_, t2, t3⟩, k3⟩
 rw [← t1]; exact k2
theorem put_hd {W : World} {base g n cap : Nat} {ok : Nat → Prop} {hs : List SH} (hS : kSH.R 27 W base ok (.slice (some ⟨g, 0, none⟩) n cap) hs) (j : Nat) (h : SH) :
 kSH.R 27 (W.setCell ⟨g, j, none⟩ (shE h)) base ok (.slice (some ⟨g, 0, none⟩) n cap) (hs.set j h) ∧ Pres5 W (W.setCell ⟨g, j, none⟩ (shE h)) ∧ ∀ (q t : Nat) (cells : Array Value), t ≠ 27 → W.heap[q]? = some (.cells cells t (0, 0)) → (W.setCell ⟨g, j, none⟩ (shE h)).heap[q]? = some (.cells cells t (0, 0)) := by
 obtain ⟨cH, hcH⟩ := Kd.R_typed hS g rfl
 have := Kd.R_putn (enc := shE) hS (j : Int) h
 rw [Int.toNat_natCast] at this
 refine ⟨this, Pres5.set hcH (by decide) j (shE h), fun q t cells ht hq => ?_⟩
 rw [Below.heap_setCell W ⟨g, j, none⟩ (shE h) q (blk_other hq hcH ht)]; exact hq
theorem outs_put {w w' : World} {base : Nat} {hs : List SH} {out : List (List Int)} {h : SH} {x : List Int} (hl : out.length < hs.length) (ho : ∀ (j : Nat) (s : SH) (b : List Int), hs[j]? = some s → out[j]? = some b → Txt base w s b) (hp : Pres5 w w') (hx : Txt base w h x) :
 ∀ (j : Nat) (s : SH) (b : List Int), (hs.set out.length h)[j]? = some s → (out ++ [x])[j]? = some b → Txt base w' s b := by
 intro j s b h1 h2
 by_cases e : j = out.length
 ·subst e
  rw [List.getElem?_set_self hl] at h1
  rw [List.getElem?_append_right (Nat.le_refl _), Nat.sub_self] at h2
  obtain rfl := Option.some.inj h1
  obtain rfl := Option.some.inj h2
  exact hx.pres hp
 ·have hj : j < out.length := by
   have := (List.getElem?_eq_some_iff.1 h2).1
   rw [List.length_append, List.length_singleton] at this; omega
  rw [List.getElem?_set_ne (by omega)] at h1
  rw [List.getElem?_append_left hj] at h2
  exact (ho j s b h1 h2).pres hp
theorem snoc_len (out : List (List Int)) (x : List Int) : ((out ++ [x]).length : Int) = (out.length : Int) + 1 := by rw [List.length_append]; rfl
theorem rehashS.calls (k : Nat) (a0 a1 a2 a3 a4 a5 : Int) (A : Option Addr) (c n b e : Nat) (z1 z2 : Int) (v : Value) (xs : List (List Int)) (ss : List SH) (f : List Int) (base : Nat) (w : World) (hbase : base ≤ w.heap.size)
 (hsl : ss.length = xs.length) (hRow : Rw w base v ss) (hTx : ∀ (j : Nat) (s : SH) (b : List Int), ss[j]? = some s → xs[j]? = some b → Txt base w s b) (hn : xs.length = n) (hb63 : b < 4611686018427387904) (he63 : e < 4611686018427387904) (hbe : b < e → e ≤ n)
 (hf : b < e → upB_ (impl_toy_HashChildren.f k a0 a1 a2 a3 a4 a5) ((xs.take e).drop (b + 1)) (xs.getD b []) = some f) :
 Calls Tryd.prog 64 #[.agg #[.slice A n c, .int .i64 (b : Int), .int .i64 (e : Int), .int .u64 z1, .int .u64 z2], v, .func (.func 50) #[toyV a0 a1 a2 a3 a4 a5] #[]] w fun ex w' => ∃ A' c', ex = .returned (.tuple #[.slice A' (rehL b e xs f).length c', .nilIface]) ∧ (rehL b e xs f).length ≤ c' ∧ Kd.C (Kd.slice 5 (Kd.int .u8)) w' A' (rehL b e xs f).length (rehL b e xs f) ∧ Below base w w' := by
 obtain ⟨s0, rfl⟩ := kSH_val hRow
 obtain ⟨A0, n0, c0⟩ := s0
 obtain ⟨r1, r2, r3⟩ := Kd.R_reads' hRow
 have r1 : n0 = ss.length := r1
 subst r1
 have hmax : ss.length ≤ 9223372036854775807 := r3.2.1
 subst hn
 rw [hsl] at hRow r2 hmax ⊢
 have HS0 := Aside0.mk hRow
 have HT0 := Aside0.mk hTx
 have HSL := Aside0.mk hsl
 have HBE := Aside0.mk hbe
 have HF := Aside0.mk hf
 have HBS := Aside0.mk hbase
 have HR2 := Aside0.mk r2
 have HB63 := Aside0.mk hb63
 have HE63 := Aside0.mk he63
 clear hRow hTx hbe hf hbase r2 r3 hb63 he63 hsl
 have hm := methHC a0 a1 a2 a3 a4 a5
 dsimp only [shE]
 go_enter Tryd.func64, Tryd.ntmps64
 go_wp2_with (fail)
 go_quiet (fail)
 go_wp2_with (fail)
 have BK := Aside0.mk (blk_new w (Obj.cells #[Value.slice A xs.length c, Value.int IntKind.i64 (b : Int), Value.int IntKind.i64 (e : Int), Value.int IntKind.u64 z1, Value.int IntKind.u64 z2] 112))
 have HB := Aside0.mk (below_alloc (Below.refl w.heap.size w) (Obj.cells #[Value.slice A xs.length c, Value.int IntKind.i64 (b : Int), Value.int IntKind.i64 (e : Int), Value.int IntKind.u64 z1, Value.int IntKind.u64 z2] 112))
 replace BK := Aside0.mk (blk_drewN BK.out nq)
 replace HB := Aside0.mk (pw_below_drewN HB.out nq)
 generalize (w.alloc (Obj.cells #[Value.slice A xs.length c, Value.int IntKind.i64 (b : Int), Value.int IntKind.i64 (e : Int), Value.int IntKind.u64 z1, Value.int IntKind.u64 z2] 112)).drewN nq = W at BK HB ⊢
 have HS := Aside0.mk (Kd.R_below HS0.out HB.out)
 have HTX := Aside0.mk (fun j s b h1 h2 => (HT0.out j s b h1 h2).pres (Pres5.below HB.out))
 replace HB := Aside0.mk (HB.out.mono HBS.out)
 clear HS0 HT0
 go_loopg [10, 11, 13] xs.length (fun kq v10 v11 v13 w' => ∃ (i : Nat) (out : List (List Int)) (hs : List SH), v10 = .int .i64 (out.length : Int) ∧ v11 = .int .i64 (i : Int) ∧ Aside0 (i + kq = xs.length) ∧ Aside0 (out.length ≤ i) ∧ Aside0 (i ≤ b ∨ e ≤ i ∨ e ≤ b) ∧ Aside0 (out ++ rehT b e i xs f = rehL b e xs f) ∧ Aside0 (kSH.R 27 w' base (fun _ => True) (.slice A0 xs.length c0) hs) ∧ Aside0 (hs.length = xs.length) ∧ Aside0 (∀ j, i ≤ j → hs[j]? = ss[j]?) ∧ Aside0 (∀ (j : Nat) (s : SH) (b : List Int), hs[j]? = some s → out[j]? = some b → Txt base w' s b) ∧ Aside0 (∀ (j : Nat) (s : SH) (b : List Int), ss[j]? = some s → xs[j]? = some b → Txt base w' s b) ∧ Aside0 (w'.heap[w.heap.size]? = some (.cells #[Value.slice A xs.length c, Value.int IntKind.i64 (b : Int), Value.int IntKind.i64 (e : Int), Value.int IntKind.u64 z1, Value.int IntKind.u64 z2] 112 (0, 0))) ∧ Aside0 (Below base w w'))
 case atStart => exact ⟨0, [], ss, rfl, rfl, ⟨by omega⟩, ⟨Nat.zero_le _⟩, ⟨.inl (Nat.zero_le _)⟩, ⟨by rw [List.nil_append, rehT_zero]⟩, HS, HSL, ⟨fun _ _ => rfl⟩, ⟨fun j s b _ h => by simp at h⟩, HTX, BK, HB⟩
 case round =>
  clear HS HTX BK HB
  obtain ⟨i, out, hs, rfl, rfl, HI, HCU, HIB, HEQ, HS, HHL, HSAME, HOUT, HTX, BK, HB⟩ := hrel
  cases gk with
  | zero =>
   have ei : i = xs.length := by have := HI.out; omega
   have heq : out = rehL b e xs f := by
    have h := HEQ.out
    have : rehT b e i xs f = [] := by
     unfold rehT
     rw [if_neg (by rintro ⟨h1, h2⟩; have := HBE.out h2; omega), List.drop_of_length_le (by omega)]
    rw [this, List.append_nil] at h
    exact h
   have hle : out.length ≤ xs.length := by have := HCU.out; omega
   have d1 : decide ((i : Int) < (xs.length : Int)) = false := decide_eq_false (by omega)
   have d2 : decide (i < xs.length) = false := decide_eq_false (by omega)
   obtain ⟨i0, hi0, _, hsz, _⟩ := info_parts info27
   have hcut := cut_to (P := Tryd.prog) 25 27 .i64 Tryd.underlying25 hi0 A0 xs.length c0 (out.length : Int) (by omega) (by omega) HR2.out
   rw [Int.toNat_natCast] at hcut
   have HC := Aside0.mk (heads_C HS.out (by rw [HHL.out]; exact hle) HOUT.out)
   have HLE := Aside0.mk (Nat.le_trans hle HR2.out)
   have HE := Aside0.mk heq
   clear heq hle ei hi0 hsz
   go_wp2
   go_ret2
   rw [← HE.out]
   exact ⟨_, _, rfl, HLE.out, HC.out, HB.out⟩
  | succ k1 =>
   have hi : i < xs.length := by have := HI.out; omega
   have hmx := hmax
   have d1 : decide ((i : Int) < (xs.length : Int)) = true := decide_eq_true (by omega)
   have d2 : decide (i < xs.length) = true := decide_eq_true hi
   obtain ⟨g0, cc, e0, hg0⟩ := kSH_form (s := (A0, xs.length, c0)) HS.out (by have := HHL.out; omega)
   simp only [Prod.mk.injEq] at e0
   obtain ⟨rfl, -, rfl⟩ := e0
   obtain ⟨⟨A1, n1, c1'⟩, hsi⟩ : ∃ s, ss[i]? = some s := ⟨_, List.getElem?_eq_getElem (by have := HSL.out; omega)⟩
   obtain ⟨x, hxi⟩ : ∃ x, xs[i]? = some x := ⟨_, List.getElem?_eq_getElem hi⟩
   have hti := HTX.out i _ _ hsi hxi
   have HXI := Aside0.mk hxi
   have hx1 := (kSH_cell HS.out ((HSAME.out i (Nat.le_refl _)).trans hsi)).1
   replace hx1 : World.cell? _ ⟨g0, i, none⟩ = some (.slice A1 n1 c1') := hx1
   obtain ⟨sc, hsc⟩ : ∃ s, hs[out.length]? = some s := ⟨_, List.getElem?_eq_getElem (by have := HHL.out; have := HCU.out; omega)⟩
   have e60 := blk_cell BK.out 1
   replace e60 : World.cell? _ ⟨w.heap.size, 1, none⟩ = some (.int .i64 (b : Int)) := e60
   have e61 := blk_cell BK.out 2
   replace e61 : World.cell? _ ⟨w.heap.size, 2, none⟩ = some (.int .i64 (e : Int)) := e61
   have l0 : 0 ≤ (i : Int) := by omega
   have l1 : (i : Int) < (xs.length : Int) := by omega
   have l2 : 0 ≤ (out.length : Int) := by omega
   have l3 : (out.length : Int) < (xs.length : Int) := by have := HCU.out; omega
   have l4 : decide ((out.length : Int) < (xs.length : Int)) = true := decide_eq_true l3
   have l5 : decide (out.length < xs.length) = true := decide_eq_true (by omega)
   have HSI := Aside0.mk hsi
   have HTI := Aside0.mk hti
   have HMX := Aside0.mk hmx
   have HG0 := Aside0.mk hg0
   have HIL := Aside0.mk hi
   by_cases hin : b ≤ i ∧ i < e
   ·have hib : i = b := by have := HIB.out; omega
    subst hib
    have hbe := hin.2
    have hen := HBE.out hbe
    have g1 : decide ((i : Int) ≥ (i : Int)) = true := decide_eq_true (by omega)
    have g2 : decide ((i : Int) ≤ (i : Int)) = true := decide_eq_true (by omega)
    have g4 : decide ((i : Int) < (e : Int)) = true := decide_eq_true (by omega)
    have g5 : decide (i < e) = true := decide_eq_true hbe
    have hup := HF.out hbe
    rw [List.getD_eq_getElem?_getD, hxi, Option.getD_some] at hup
    have HUP := Aside0.mk hup
    have HBE2 := Aside0.mk hbe
    have HEN := Aside0.mk hen
    clear hin hbe hen hup hsc hsi hti hmx hg0 hi hxi
    go_wp2_with (fail)
    rename World => W1
    go_loopg [11, 13] (e - (i + 1)) (fun kq v11 v13 w' => ∃ (j : Nat) (s : SH) (t : List Int), v11 = .int .i64 (j : Int) ∧ v13 = .slice s.1 s.2.1 s.2.2 ∧ Aside0 (j + kq = e) ∧ Aside0 (i < j) ∧ Aside0 (Txt base w' s t) ∧ Aside0 (upB_ (impl_toy_HashChildren.f k a0 a1 a2 a3 a4 a5) ((xs.take e).drop j) t = some f) ∧ Aside0 (Below W1.heap.size W1 w'))
    case atStart => exact ⟨i + 1, (A1, n1, c1'), x, rfl, rfl, ⟨by have := HBE2.out; omega⟩, ⟨by omega⟩, HTI, HUP, ⟨Below.refl _ _⟩⟩
    case round =>
     clear HTI HUP hx1 e60 e61 d1 d2 l0 l1 l2 l3 l4 l5 g1 g2 g4 g5
     obtain ⟨j, ⟨A2, n2, c2⟩, t, rfl, rfl, HJ, HIJ, HTT, HU, HB1⟩ := hrel
     dsimp only
     obtain ⟨rfl, tt2, tt3⟩ := HTT.out.read
     have HT2 := Aside0.mk tt2
     have HT3 := Aside0.mk tt3
     clear tt2 tt3
     have HS2 := Aside0.mk (Kd.R_below HS.out HB1.out)
     have BK2 := Aside0.mk (blk_below BK.out HB1.out)
     have e61 := blk_cell BK2.out 2
     replace e61 : World.cell? _ ⟨w.heap.size, 2, none⟩ = some (.int .i64 (e : Int)) := e61
     have he63 := HE63.out
     cases gk with
     | zero =>
      have ej : j = e := by have := HJ.out; omega
      subst ej
      have d1 : decide ((j : Int) < (j : Int)) = false := decide_eq_false (by omega)
      have d2 : decide (j < j) = false := decide_eq_false (by omega)
      have ht : t = f := by
       have h := HU.out
       rw [List.drop_of_length_le (by rw [List.length_take]; omega)] at h
       exact Option.some.inj h
      obtain ⟨sc, hsc⟩ : ∃ s, hs[out.length]? = some s := ⟨_, List.getElem?_eq_getElem (by have := HHL.out; have := HCU.out; have := HIL.out; omega)⟩
      obtain ⟨f1, f2⟩ := kSH_cell HS2.out hsc
      obtain ⟨s1, s2, s3⟩ := sc
      replace f1 : World.cell? _ ⟨g0, out.length, none⟩ = some (.slice s1 s2 s3) := f1
      have l2 : 0 ≤ (out.length : Int) := by omega
      have l3 : (out.length : Int) < (xs.length : Int) := by have := HCU.out; have := HIL.out; omega
      have l4 : decide ((out.length : Int) < (xs.length : Int)) = true := decide_eq_true l3
      have l5 : decide (out.length < xs.length) = true := decide_eq_true (by omega)
      have l6 : 1 ≤ (j : Int) := by have := HIJ.out; omega
      have HTF := Aside0.mk ht
      clear hsc ht
      go_wp2
      go_roundg (xs.length - j)
      case measure => have := HIJ.out; have := HI.out; omega
      case rel =>
       obtain ⟨q1, q2, q3⟩ := put_hd HS2.out out.length (A2, t.length, c2)
       have p1 := Pres5.below HB1.out
       refine ⟨j, out ++ [t], hs.set out.length (A2, t.length, c2), by rw [snoc_len], by first | rfl | (congr 1), ⟨by have := HEN.out; omega⟩, ⟨by have := HCU.out; have := HIJ.out; rw [List.length_append, List.length_singleton]; omega⟩, ⟨.inr (.inl (Nat.le_refl _))⟩, ⟨?_⟩, ⟨q1⟩, ⟨by rw [List.length_set]; exact HHL.out⟩, ⟨fun m hm => by rw [List.getElem?_set_ne (by have := HCU.out; have := HIJ.out; omega)]; exact HSAME.out m (by have := HIJ.out; omega)⟩, ⟨outs_put (by have := HHL.out; have := HCU.out; have := HIL.out; omega) (fun j s b h1 h2 => (HOUT.out j s b h1 h2).pres p1) q2 HTT.out⟩, ⟨fun j s b h1 h2 => ((HTX.out j s b h1 h2).pres p1).pres q2⟩, ⟨q3 _ _ _ (by decide) BK2.out⟩, ⟨(HB.out.trans (HB1.out.mono (Nat.le_trans HBS.out HB.out.size))).setCell (p := ⟨g0, out.length, none⟩) HG0.out _⟩⟩
       have h := HEQ.out
       rw [rehT_in f HBE2.out HEN.out] at h
       rw [HTF.out, List.append_assoc]; exact h
     | succ k2 =>
      have hje : j < e := by have := HJ.out; omega
      have hjl : j < xs.length := by have := HEN.out; omega
      have d1 : decide ((j : Int) < (e : Int)) = true := decide_eq_true (by omega)
      have d2 : decide (j < e) = true := decide_eq_true hje
      have l0 : 0 ≤ (j : Int) := by omega
      have l1 : (j : Int) < (xs.length : Int) := by omega
      have l4 : decide ((j : Int) < (xs.length : Int)) = true := decide_eq_true l1
      have l5 : decide (j < xs.length) = true := decide_eq_true hjl
      obtain ⟨⟨A3, n3, c3⟩, hsj⟩ : ∃ s, ss[j]? = some s := ⟨_, List.getElem?_eq_getElem (by have := HSL.out; omega)⟩
      obtain ⟨y, hy⟩ : ∃ y, xs[j]? = some y := ⟨_, List.getElem?_eq_getElem hjl⟩
      have hx1 := (kSH_cell HS2.out ((HSAME.out j (by have := HIJ.out; omega)).trans hsj)).1
      replace hx1 : World.cell? _ ⟨g0, j, none⟩ = some (.slice A3 n3 c3) := hx1
      obtain ⟨rfl, y2, y3⟩ := ((HTX.out j _ _ hsj hy).pres (Pres5.below HB1.out)).read
      obtain ⟨t', ht1, ht2⟩ := upB_step HU.out hje HEN.out
      rw [List.getD_eq_getElem?_getD, hy, Option.getD_some] at ht1
      have HY2 := Aside0.mk y2
      have HY3 := Aside0.mk y3
      have HT1 := Aside0.mk ht1
      have HU2 := Aside0.mk ht2
      clear hje hjl hsj hy y2 y3 ht1 ht2
      go_wp2_with (fail)
      refine (impl_toy_HashChildren.calls k a0 a1 a2 a3 a4 a5 A3 c3 y A2 c2 t t' _ HY3.out HY2.out HT3.out HT2.out HT1.out).mono ?_
      rintro ex w4 ⟨v4, rfl, hR4, hb4⟩
      dsimp only
      obtain ⟨s4, rfl⟩ := kSH_val' hR4
      obtain ⟨A4, n4, c4⟩ := s4
      have HR4 := Aside0.mk (Txt.of_R (base := base) (s := (A4, n4, c4)) hR4 (Nat.le_trans (Nat.le_trans HBS.out HB.out.size) HB1.out.size))
      have HB4 := Aside0.mk (HB1.out.trans (hb4.mono HB1.out.size))
      clear hR4 hb4
      dsimp only [shE]
      go_wp2
      go_roundg k2
      case measure => omega
      case rel => exact ⟨j + 1, (A4, n4, c4), t', by first | rfl | (congr 1), rfl, ⟨by have := HJ.out; omega⟩, ⟨by have := HIJ.out; omega⟩, HR4, HU2, HB4⟩
   ·have hp : i < b ∨ e ≤ i ∨ e ≤ b := by have := HIB.out; omega
    have HP := Aside0.mk hp
    obtain ⟨f1, f2⟩ := kSH_cell HS.out hsc
    obtain ⟨s1, s2, s3⟩ := sc
    replace f1 : World.cell? _ ⟨g0, out.length, none⟩ = some (.slice s1 s2 s3) := f1
    clear hsc hsi hti hmx hg0 hi hxi
    by_cases hb : b ≤ i
    ·have g1 : decide ((i : Int) ≥ (b : Int)) = true := decide_eq_true (by omega)
     have g2 : decide ((b : Int) ≤ (i : Int)) = true := decide_eq_true (by omega)
     have g3 : decide (b ≤ i) = true := decide_eq_true hb
     have g4 : decide ((i : Int) < (e : Int)) = false := decide_eq_false (by omega)
     have g5 : decide (i < e) = false := decide_eq_false (by omega)
     clear hin hp hb
     go_wp2
     go_roundg k1
     case measure => omega
     case rel =>
      obtain ⟨q1, q2, q3⟩ := put_hd HS.out out.length (A1, n1, c1')
      refine ⟨i + 1, out ++ [x], hs.set out.length (A1, n1, c1'), by rw [snoc_len], by first | rfl | (congr 1), ⟨by have := HI.out; omega⟩, ⟨by have := HCU.out; rw [List.length_append, List.length_singleton]; omega⟩, ⟨by have := HP.out; omega⟩, ⟨?_⟩, ⟨q1⟩, ⟨by rw [List.length_set]; exact HHL.out⟩, ⟨fun j hj => by rw [List.getElem?_set_ne (by have := HCU.out; omega)]; exact HSAME.out j (by omega)⟩, ⟨outs_put (by have := HHL.out; have := HCU.out; have := HIL.out; omega) HOUT.out q2 HTI.out⟩, ⟨fun j s b h1 h2 => (HTX.out j s b h1 h2).pres q2⟩, ⟨q3 _ _ _ (by decide) BK.out⟩, ⟨HB.out.setCell (p := ⟨g0, out.length, none⟩) HG0.out _⟩⟩
      have h := HEQ.out
      rw [rehT_out f HP.out HBE.out HIL.out, List.getD_eq_getElem?_getD, HXI.out] at h
      rw [List.append_assoc]; exact h
    ·have g1 : decide ((i : Int) ≥ (b : Int)) = false := decide_eq_false (by omega)
     have g2 : decide ((b : Int) ≤ (i : Int)) = false := decide_eq_false (by omega)
     have g3 : decide (b ≤ i) = false := decide_eq_false hb
     clear hin hp hb
     go_wp2
     go_roundg k1
     case measure => omega
     case rel =>
      obtain ⟨q1, q2, q3⟩ := put_hd HS.out out.length (A1, n1, c1')
      refine ⟨i + 1, out ++ [x], hs.set out.length (A1, n1, c1'), by rw [snoc_len], by first | rfl | (congr 1), ⟨by have := HI.out; omega⟩, ⟨by have := HCU.out; rw [List.length_append, List.length_singleton]; omega⟩, ⟨by have := HP.out; omega⟩, ⟨?_⟩, ⟨q1⟩, ⟨by rw [List.length_set]; exact HHL.out⟩, ⟨fun j hj => by rw [List.getElem?_set_ne (by have := HCU.out; omega)]; exact HSAME.out j (by omega)⟩, ⟨outs_put (by have := HHL.out; have := HCU.out; have := HIL.out; omega) HOUT.out q2 HTI.out⟩, ⟨fun j s b h1 h2 => (HTX.out j s b h1 h2).pres q2⟩, ⟨q3 _ _ _ (by decide) BK.out⟩, ⟨HB.out.setCell (p := ⟨g0, out.length, none⟩) HG0.out _⟩⟩
      have h := HEQ.out
      rw [rehT_out f HP.out HBE.out HIL.out, List.getD_eq_getElem?_getD, HXI.out] at h
      rw [List.append_assoc]; exact h
theorem rehash.calls (k : Nat) (a0 a1 a2 a3 a4 a5 : Int) (A : Option Addr) (c n b e : Nat) (z1 z2 : Int) (v : Value) (xs : List (List Int)) (f : List Int) (base : Nat) (w : World) (hbase : base ≤ w.heap.size)
 (hx : Kd.R (Kd.slice 5 (Kd.int .u8)) 27 w base (fun _ => True) v xs) (hn : xs.length = n) (hb63 : b < 4611686018427387904) (he63 : e < 4611686018427387904) (hbe : b < e → e ≤ n)
 (hf : b < e → upB_ (impl_toy_HashChildren.f k a0 a1 a2 a3 a4 a5) ((xs.take e).drop (b + 1)) (xs.getD b []) = some f) :
 Calls Tryd.prog 64 #[.agg #[.slice A n c, .int .i64 (b : Int), .int .i64 (e : Int), .int .u64 z1, .int .u64 z2], v, .func (.func 50) #[toyV a0 a1 a2 a3 a4 a5] #[]] w fun ex w' => ∃ A' c', ex = .returned (.tuple #[.slice A' (rehL b e xs f).length c', .nilIface]) ∧ (rehL b e xs f).length ≤ c' ∧ Kd.C (Kd.slice 5 (Kd.int .u8)) w' A' (rehL b e xs f).length (rehL b e xs f) ∧ Below base w w' := by
 obtain ⟨ss, hsl, hRow, hTx⟩ := rows_SH hx
 exact rehashS.calls k a0 a1 a2 a3 a4 a5 A c n b e z1 z2 v xs ss f base w hbase hsl hRow hTx hn hb63 he63 hbe hf
theorem Glob.far {w w' : World} (h : Glob w) (hb : Below 1 w w') : Glob w' := fun j hj => (hb.cell (p := ⟨0, j, none⟩) (Nat.lt_succ_self 0)).trans (h j hj)
theorem Appd.after {w w1 w' : World} {tb p fq q : Nat} {a0 a1 a2 a3 a4 a5 b en : Int} {A : Option Addr} {c n : Nat} {xs : List (List Int)} {vs : List S51} (hv : Vs q w w1) (hb : ∀ B, B ≤ tb → B ≤ q → Below B w w1) (h : Appd w1 w' tb p fq q a0 a1 a2 a3 a4 a5 b en A c n xs vs) : Appd w w' tb p fq q a0 a1 a2 a3 a4 a5 b en A c n xs vs := by
 obtain ⟨A', c', ss', SV', R, hq, hS, F, hB, hat⟩ := h
 refine ⟨A', c', ss', SV', R, hq, hS, ⟨F.os.trans hv.os, F.tape.trans hv.tape, F.output.trans hv.output, Nat.le_trans hv.size F.size, fun k hk h1 h2 h3 h4 => ?_⟩, fun B h1 h2 h3 => (hb B h1 h2).trans (hB B h1 h2 h3), ?_⟩
 ·have e := hv.block k hk h2 h4
  exact (F.block k (Nat.lt_of_lt_of_le hk hv.size) h1 h2 h3 (fun c => by rw [e]; exact h4 c)).trans e
 ·rcases hat with h | ⟨g, h, hle⟩
  ·exact .inl h
  ·exact .inr ⟨g, h, Nat.le_trans hv.size hle⟩
theorem newRange.calls (k fq : Nat) (b e : Int) (A : Option Addr) (n c : Nat) (w : World) (hG : Glob w) (hbe : b ≤ e) (hsz : compact_RangeSize.f k b e = some (n : Int)) :
 Calls Tryd.prog 51 #[.pointer (some ⟨fq, 0, none⟩), .int .u64 b, .int .u64 e, .slice A n c] w fun ex w' => ∃ m, ex = .returned (.tuple #[.pointer (some ⟨w.heap.size, 0, none⟩), .nilIface]) ∧ w' = (w.drewN m).alloc (Obj.cells #[.pointer (some ⟨fq, 0, none⟩), .int .u64 b, .int .u64 e, .slice A n c] 148) := by
 have b0 : decide (e < b) = false := decide_eq_false (by omega)
 have b1 : ((n : Int) != (n : Int)) = false := by simp
 go_enter Tryd.func51, Tryd.ntmps51
 go_wp2_with (fail)
 refine (compact_RangeSize.calls k b e n _ hsz).mono ?_
 rintro ex w1 ⟨rfl, hd⟩
 obtain ⟨⟨nd, rfl⟩⟩ := hd
 dsimp only
 go_wp2
 go_ret2
 exact ⟨nd, rfl, rfl⟩
theorem rangeBegin.calls (p fq : Nat) (b e : Int) (V : Value) (w : World) (h : w.heap[p]? = some (.cells #[.pointer (some ⟨fq, 0, none⟩), .int .u64 b, .int .u64 e, V] 148 (0, 0))) : Calls Tryd.prog 91 #[.pointer (some ⟨p, 0, none⟩)] w fun ex w' => ex = .returned (.int .u64 b) ∧ w' = w := by
 have y1 : w.cell? ⟨p, 1, none⟩ = some (.int .u64 b) := blk_cell h 1
 go_enter Tryd.func91, Tryd.ntmps91
 go_wp2
 go_ret
 exact ⟨rfl, rfl⟩
theorem rangeEnd.calls (p fq : Nat) (b e : Int) (V : Value) (w : World) (h : w.heap[p]? = some (.cells #[.pointer (some ⟨fq, 0, none⟩), .int .u64 b, .int .u64 e, V] 148 (0, 0))) : Calls Tryd.prog 92 #[.pointer (some ⟨p, 0, none⟩)] w fun ex w' => ex = .returned (.int .u64 e) ∧ w' = w := by
 have y1 : w.cell? ⟨p, 2, none⟩ = some (.int .u64 e) := blk_cell h 2
 go_enter Tryd.func92, Tryd.ntmps92
 go_wp2
 go_ret
 exact ⟨rfl, rfl⟩
theorem rangeHashes.calls (p fq : Nat) (b e : Int) (A : Option Addr) (n c : Nat) (w : World) (h : w.heap[p]? = some (.cells #[.pointer (some ⟨fq, 0, none⟩), .int .u64 b, .int .u64 e, .slice A n c] 148 (0, 0))) : Calls Tryd.prog 93 #[.pointer (some ⟨p, 0, none⟩)] w fun ex w' => ex = .returned (.slice A n c) ∧ w' = w := by
 have y1 : w.cell? ⟨p, 3, none⟩ = some (.slice A n c) := blk_cell h 3
 go_enter Tryd.func93, Tryd.ntmps93
 go_wp2
 go_ret
 exact ⟨rfl, rfl⟩
theorem fromRange.calls (k tb p fq : Nat) (a0 a1 a2 a3 a4 a5 b e : Int) (A : Option Addr) (c : Nat) (ss : List SH) (xs r : List (List Int)) (w : World) (R : RgAt w tb p fq a0 a1 a2 a3 a4 a5 b e A c ss xs) (hx : impl_texts.f k xs = some r) :
 Calls Tryd.prog 55 #[.pointer (some ⟨p, 0, none⟩)] w fun ex w' => ∃ v, ex = .returned (.agg #[.int .u64 b, .int .u64 e, v]) ∧ Kd.S (Kd.slice 5 (Kd.int .u8)) 27 w' w.heap.size (fun _ => True) v r ∧ Below w.heap.size w w' := by
 have HR := Aside0.mk R
 have HX := Aside0.mk hx
 clear R hx
 go_enter Tryd.func55, Tryd.ntmps55
 go_wp2_with (fail)
 have BK := Aside0.mk (blk_new w (Obj.cells #[Value.int IntKind.u64 0, Value.int IntKind.u64 0, Value.slice none 0 0] 34))
 have HB := Aside0.mk (below_alloc (Below.refl w.heap.size w) (Obj.cells #[Value.int IntKind.u64 0, Value.int IntKind.u64 0, Value.slice none 0 0] 34))
 generalize w.alloc (Obj.cells #[Value.int IntKind.u64 0, Value.int IntKind.u64 0, Value.slice none 0 0] 34) = W at BK HB ⊢
 replace HR := Aside0.mk (HR.out.below HB.out)
 refine (rangeBegin.calls p fq b e _ W HR.out.cell).mono ?_
 rintro ex w' ⟨rfl, rfl⟩
 dsimp only
 go_wp2_with (fail)
 refine (rangeEnd.calls p fq b e _ w' HR.out.cell).mono ?_
 rintro ex w' ⟨rfl, rfl⟩
 dsimp only
 go_wp2_with (fail)
 refine (rangeHashes.calls p fq b e _ _ _ w' HR.out.cell).mono ?_
 rintro ex w' ⟨rfl, rfl⟩
 dsimp only
 have hln := HR.out.len
 have hRC := heads_C HR.out.row (out := xs) (by omega) (fun j s b h1 h2 => HR.out.txt j s b h1 h2)
 have hle := (Kd.R_reads' HR.out.row).2.1
 rw [hln] at hle
 have HRC := Aside0.mk hRC
 have HLE := Aside0.mk hle
 obtain ⟨n, hn⟩ : ∃ n, ss.length = n := ⟨_, rfl⟩
 rw [hn]
 obtain rfl : n = xs.length := by omega
 clear hRC hle hln
 go_wp2_with (fail)
 refine (impl_texts.calls k A c xs r _ HRC.out HLE.out HX.out).mono ?_
 rintro ex w3 ⟨v3, rfl, hS3, hb3⟩
 have HS3 := Aside0.mk (Kd.S_lower hS3 HB.out.size)
 replace BK := Aside0.mk (blk_below BK.out hb3)
 replace HB := Aside0.mk (below_step HB.out hb3)
 clear hS3 hb3
 dsimp only
 obtain ⟨A3, c3, rfl⟩ := Kd.S_slice HS3.out
 have s0 : w3.cell? ⟨w.heap.size, 0, none⟩ = some (.int .u64 0) := blk_cell BK.out 0
 have s1 : w3.cell? ⟨w.heap.size, 1, none⟩ = some (.int .u64 0) := blk_cell BK.out 1
 have s2 : w3.cell? ⟨w.heap.size, 2, none⟩ = some (.slice none 0 0) := blk_cell BK.out 2
 have z0 := blk_frozen BK.out 0
 have z1 := blk_frozen BK.out 1
 have z2 := blk_frozen BK.out 2
 go_wp2
 have k1 := blk_set BK.out 0 (.int .u64 b)
 have k2 := blk_set k1 1 (.int .u64 e)
 have k3 := blk_set k2 2 (.slice A3 r.length c3)
 refine bodyPost_ret (results_cell_row rfl _ _ w.heap.size 34 #[.int .u64 b, .int .u64 e, .slice A3 r.length c3] (0, 0) _ rfl k3 Tryd.underlying34 rfl (by kernel_rfl)) rfl ?_
 exact ⟨_, rfl, Kd.S_set (Kd.S_set (Kd.S_set HS3.out BK.out (by decide) _ _) k1 (by decide) _ _) k2 (by decide) _ _, ((HB.out.setCell (p := ⟨w.heap.size, 0, none⟩) (Nat.le_refl _) _).setCell (p := ⟨w.heap.size, 1, none⟩) (Nat.le_refl _) _).setCell (p := ⟨w.heap.size, 2, none⟩) (Nat.le_refl _) _⟩
end Go.Proofs.YtielnphmcaecdaaDoor.PAll
namespace Go.Proofs.YtielnphmcaecdaaDoor.PAll
open Go.RowKit Go.Proofs.YtielnphmcaecdaaDoorW.PrintWords Go.Proofs.YtielnphmcaecdaaDoorW.PrintLast Go.Proofs.YtielnphmcaecdaaDoorW.PrintMore
theorem seen53.calls (lv ix : Int) (A : Option Addr) (c : Nat) (b : List Int) (tb q : Nat) (SV : Value) (vs : List S51) (w : World) (hb : tb ≤ w.heap.size) (hq : w.heap[q]? = some (.cells #[SV] 36 (0, 0))) (hS : Kd.S k51 51 w tb (fun _ => True) SV vs)
 (hC : Kd.C (Kd.int .u8) w A b.length b) (hc : b.length ≤ c) (hl : vs.length < 1099511627776) (hbl : b.length ≤ 140737488355328) :
 Calls Tryd.prog 53 #[.agg #[.int .u64 lv, .int .u64 ix], .slice A b.length c, .pointer (some ⟨q, 0, none⟩)] w fun e w' => e = .returned (.tuple #[]) ∧ ∃ SV', w'.heap[q]? = some (.cells #[SV'] 36 (0, 0)) ∧ Kd.S k51 51 w' tb (fun _ => True) SV' (vs ++ [⟨⟨lv, ix⟩, b⟩]) ∧ (∀ B, B ≤ tb → B ≤ q → Below B w w') ∧ Vs q w w' := by
 have HB := Aside0.mk (below_alloc (Below.refl w.heap.size w) (Obj.cells #[Value.int IntKind.u64 lv, Value.int IntKind.u64 ix] 99))
 have hbk := blk_new w (Obj.cells #[Value.int IntKind.u64 lv, Value.int IntKind.u64 ix] 99)
 have HQ := Aside0.mk hq
 have HS := Aside0.mk hS
 have HC := Aside0.mk hC
 have HCC := Aside0.mk hc
 have HL := Aside0.mk hl
 have HBL := Aside0.mk hbl
 have HTB := Aside0.mk hb
 have hqlt := blk_lt hq
 clear hq hS hC hc hl hbl hb
 go_enter Tryd.func53, Tryd.ntmps53
 go_wp2_with (fail)
 generalize w.alloc (Obj.cells #[Value.int IntKind.u64 lv, Value.int IntKind.u64 ix] 99) = W0 at HB hbk ⊢
 have HQ0 := Aside0.mk (blk_below HQ.out HB.out)
 have HS0 := Aside0.mk (Kd.S_mono (ok' := fun k => k < W0.heap.size) (Kd.S_bound (Kd.S_below HS.out HB.out)) (fun k hk => hk.2.2.1))
 have HC0 := Aside0.mk (Kd.C_below HC.out HB.out)
 have HBK := Aside0.mk hbk
 have y0 : W0.cell? ⟨q, 0, none⟩ = some SV := blk_cell HQ0.out 0
 have y1 : W0.cell? ⟨w.heap.size, 0, none⟩ = some (.int .u64 lv) := blk_cell hbk 0
 have y2 : W0.cell? ⟨w.heap.size, 1, none⟩ = some (.int .u64 ix) := blk_cell hbk 1
 have HQL := Aside0.mk (show q < W0.heap.size from Nat.lt_of_lt_of_le hqlt HB.out.size)
 have HWL := Aside0.mk (show w.heap.size < W0.heap.size from blk_lt hbk)
 have HBn := Aside0.mk (Below.refl W0.heap.size W0)
 have hqw : q ≠ w.heap.size := Nat.ne_of_lt hqlt
 have hqw' : w.heap.size ≠ q := Nat.ne_of_gt hqlt
 clear hbk hqlt
 have z0 : ∀ o, (W0.alloc o).cell? ⟨q, 0, none⟩ = some SV := fun o => (World.cell?_alloc_lt _ _ _ HQL.out).trans y0
 have z1 : ∀ o, (W0.alloc o).cell? ⟨w.heap.size, 0, none⟩ = some (.int .u64 lv) := fun o => (World.cell?_alloc_lt _ _ _ HWL.out).trans y1
 have z2 : ∀ o, (W0.alloc o).cell? ⟨w.heap.size, 1, none⟩ = some (.int .u64 ix) := fun o => (World.cell?_alloc_lt _ _ _ HWL.out).trans y2
 go_region_law (first
  | (
   go_simp
   go_at_call 54
   refine (impl_fromNode.calls lv ix lv ix _ rfl).mono ?_
   rintro e wq ⟨rfl, hB⟩
   have hB1 : Below W0.heap.size W0 wq := below_step (by repeat (first | exact HBn.out | exact Below.refl _ _ | (refine below_alloc ?_ _) | apply Below.drew | apply pw_below_drewN | apply below_drew)) hB
   try have H8 := Aside0.mk (Kd.R_below (Kd.R_drew (lit_R _ (below_size (by repeat (first | exact HBn.out | exact Below.refl _ _ | (refine below_alloc ?_ _) | apply Below.drew | apply pw_below_drewN | apply below_drew))))) hB)
   try have H8 := Aside0.mk (Kd.R_below (lit_R _ (below_size (by repeat (first | exact HBn.out | exact Below.refl _ _ | (refine below_alloc ?_ _) | apply Below.drew | apply pw_below_drewN | apply below_drew)))) hB)
   try have H10 := Aside0.mk (Kd.R_below H10.out (below_step (by repeat (first | exact Below.refl _ _ | apply Below.drew | apply below_drew)) hB))
   have HBn := Aside0.mk hB1
   have v0_ := (HBn.out.cell (p := ⟨q, 0, none⟩) HQL.out).trans y0
   have z0_ : ∀ o, (wq.alloc o).cell? ⟨q, 0, none⟩ = some SV := fun o => (World.cell?_alloc_lt _ _ _ (Nat.lt_of_lt_of_le HQL.out HBn.out.size)).trans v0_
   clear hB hB1)
  | (
   refine Kd.R_append_rows_step (Kd.int .u8) (w0 := W0) W0.heap.size ?hw (.tmp 8) (.tmp 9) 27 5 (.int .u8 0) 1 rfl Tryd.underlying27 info5 rfl (by decide) (by omega) _ [] b A b.length c (fun k => W0.heap.size ≤ k) (fun _ => False) rfl rfl ?aO ?aR (fun _ _ h => h) (fun _ h => h.elim) ?aF ?hB ?hbase ?aL ?_
   (case hw => simp [Region.wanted])
   (case aO => repeat (first | exact H8.out | exact lit_R _ (below_size (by repeat (first | exact HBn.out | exact Below.refl _ _ | (refine below_alloc ?_ _) | apply Below.drew | apply pw_below_drewN | apply below_drew))) | (refine Kd.R_drewN ?_ _) | (refine Kd.R_drew ?_)))
   (case aR => exact Kd.C_below HC0.out (by repeat (first | exact HBn.out | exact Below.refl _ _ | (refine below_alloc ?_ _) | apply Below.drew | apply pw_below_drewN | apply below_drew)))
   (case aF => exact fun k hk => Nat.le_trans (below_size (by repeat (first | exact HBn.out | exact Below.refl _ _ | (refine below_alloc ?_ _) | apply Below.drew | apply pw_below_drewN | apply below_drew))) hk)
   (case hB => exact (by repeat (first | exact HBn.out | exact Below.refl _ _ | (refine below_alloc ?_ _) | apply Below.drew | apply pw_below_drewN | apply below_drew)))
   (case hbase => exact below_size (by repeat (first | exact HBn.out | exact Below.refl _ _ | (refine below_alloc ?_ _) | apply Below.drew | apply pw_below_drewN | apply below_drew)))
   (case aL => have := HBL.out; simp; omega)
   intro v10 wq ho hB hg hat
   have H10 := Aside0.mk (show Kd.R (Kd.int .u8) 5 wq W0.heap.size (fun k => W0.heap.size ≤ k) v10 b from ho)
   obtain ⟨A10, c10, rfl⟩ := Kd.R_slice H10.out
   have HBn := Aside0.mk hB
   have v0_ := (HBn.out.cell (p := ⟨q, 0, none⟩) HQL.out).trans y0
   have z0_ : ∀ o, (wq.alloc o).cell? ⟨q, 0, none⟩ = some SV := fun o => (World.cell?_alloc_lt _ _ _ (Nat.lt_of_lt_of_le HQL.out HBn.out.size)).trans v0_
   clear ho hB hg hat)
  | (
   refine Kd.S_append_step k51 (w0 := W0) tb ?hw (.tmp 5) (.tmp 12) 36 51 (.agg #[(.int .u64 0), (.int .u64 0), (.slice none 0 0)]) 40 rfl Tryd.underlying36 info51 rfl (by decide) (by omega) SV vs ⟨⟨lv, ix⟩, b⟩ [.int .u64 lv, .int .u64 ix, .slice A10 b.length c10] (fun _ => True) (fun k => W0.heap.size ≤ k) rfl rfl ?hp ?hok (fun _ _ => trivial) ?HO ?hB ?hbase ?aL ?_
   (case hw => simp [Region.wanted])
   (case hp => exact k51_mkM _ tb _ ⟨⟨lv, ix⟩, b⟩ (Kd.R_lower (by repeat (first | exact H10.out | (refine Kd.R_alloc ?_ _) | (refine Kd.R_drewN ?_ _) | (refine Kd.R_drew ?_))) (Nat.le_trans HTB.out HB.out.size)))
   (case hok => exact fun k hk => ⟨trivial, fun e => absurd (Kd.S_lt HS0.out k e.symm) (Nat.not_lt_of_le hk)⟩)
   (case HO => exact Kd.S_mono (Kd.S_step HS0.out (fun k hk _ => (show Below W0.heap.size W0 _ from (by repeat (first | exact HBn.out | exact Below.refl _ _ | (refine below_alloc ?_ _) | apply Below.drew | apply pw_below_drewN | apply below_drew))).block k hk)) (fun k hk => ⟨trivial, Nat.not_le_of_lt hk⟩))
   (case hB => exact (show Below W0.heap.size W0 _ from (by repeat (first | exact HBn.out | exact Below.refl _ _ | (refine below_alloc ?_ _) | apply Below.drew | apply pw_below_drewN | apply below_drew))).mono (Nat.le_trans HTB.out HB.out.size))
   (case hbase => exact Nat.le_trans (Nat.le_trans HTB.out HB.out.size) (below_size (show Below W0.heap.size W0 _ from (by repeat (first | exact HBn.out | exact Below.refl _ _ | (refine below_alloc ?_ _) | apply Below.drew | apply pw_below_drewN | apply below_drew)))))
   (case aL => have := HL.out; omega)
   intro v13 wq hS13 hB13 hg13 hat
   have HQ13 := Aside0.mk (show wq.heap[q]? = some (.cells #[SV] 36 (0, 0)) from by
    obtain ⟨hS, hH⟩ := (⟨hS13, hg13⟩ : _ ∧ _)
    exact (hH.block q (Nat.lt_of_lt_of_le HQL.out (below_size (show Below W0.heap.size W0 _ from (by repeat (first | exact HBn.out | exact Below.refl _ _ | (refine below_alloc ?_ _) | apply Below.drew | apply pw_below_drewN | apply below_drew))))) (fun e => blk_ne HQ0.out (Kd.S_typed HS0.out q e.symm).choose_spec (by decide) rfl)).trans (((show Below W0.heap.size W0 _ from (by repeat (first | exact HBn.out | exact Below.refl _ _ | (refine below_alloc ?_ _) | apply Below.drew | apply pw_below_drewN | apply below_drew))).block q HQL.out).trans HQ0.out))
   have HK13 := Aside0.mk (show ∀ k, k < W0.heap.size → some k ≠ SV.ownBlock → wq.heap[k]? = W0.heap[k]? from fun k hk hne => (hg13.block k (Nat.lt_of_lt_of_le hk (below_size (show Below W0.heap.size W0 _ from (by repeat (first | exact HBn.out | exact Below.refl _ _ | (refine below_alloc ?_ _) | apply Below.drew | apply pw_below_drewN | apply below_drew))))) hne).trans ((show Below W0.heap.size W0 _ from (by repeat (first | exact HBn.out | exact Below.refl _ _ | (refine below_alloc ?_ _) | apply Below.drew | apply pw_below_drewN | apply below_drew))).block k hk))
   have HS13 := Aside0.mk hS13
   have HB13 := Aside0.mk hB13
   have v0_ : wq.cell? ⟨q, 0, none⟩ = some SV := blk_cell HQ13.out 0
   obtain ⟨A13, c13, rfl⟩ := Kd.S_slice HS13.out
   have f0_ : wq.frozen? ⟨q, 0, none⟩ = false := blk_frozen HQ13.out 0
   clear hS13 hB13 hg13 hat)
  | fail)
 all_goals
  go_wp2
  go_end0
  exact ⟨rfl, seen_end HTB.out HB.out HS0.out HQ13.out HK13.out HB13.out (by have := HS13.out; rw [List.length_append] at this; exact this)⟩
end Go.Proofs.YtielnphmcaecdaaDoor.PAll
