-- Written by a program of this session (wip/tools)
import Derived.Test.YtielnphmcaecdaaDoorQIMExtTreeB
import Derived.Outline
import Derived.Deep.QuietTactic
import Derived.BigQuiet
import Derived.Deep.RegionWith
import Derived.Deep.RegionLaw
import Derived.IntWalk
namespace Go.Proofs.YtielnphmcaecdaaDoor.PAll
open Go.IntWalk Go.RowKit Go.Proofs.YtielnphmcaecdaaDoorW.PrintWords Go.Proofs.YtielnphmcaecdaaDoorW.PrintLast Go.Proofs.YtielnphmcaecdaaDoorW.PrintMore
set_option linter.unusedVariables false
def upB_ (H : List Int → List Int → Option (List Int)) : List (List Int) → List Int → Option (List Int)
  | [], s => some s
  | x :: xs, s => (H x s).bind fun t => upB_ H xs t
def rehL (b e : Nat) (xs : List (List Int)) (f : List Int) : List (List Int) := if b < e then xs.take b ++ f :: xs.drop e else xs
def rehT (b e i : Nat) (xs : List (List Int)) (f : List Int) : List (List Int) := if i ≤ b ∧ b < e then (xs.take b).drop i ++ f :: xs.drop e else xs.drop i
theorem rehT_zero (b e : Nat) (xs : List (List Int)) (f : List Int) : rehT b e 0 xs f = rehL b e xs f := by
  unfold rehT rehL
  by_cases h : b < e
  · rw [if_pos ⟨Nat.zero_le _, h⟩, if_pos h, List.drop_zero]
  · rw [if_neg (fun h2 => h h2.2), if_neg h, List.drop_zero]
theorem rehT_in {b e : Nat} {xs : List (List Int)} (f : List Int) (h : b < e) (he : e ≤ xs.length) : rehT b e b xs f = f :: rehT b e e xs f := by
  unfold rehT
  rw [if_pos ⟨Nat.le_refl _, h⟩, if_neg (by omega), List.drop_eq_nil_of_le (by rw [List.length_take]; omega)]; rfl
theorem rehT_out {b e i : Nat} {xs : List (List Int)} (f : List Int) (h : i < b ∨ e ≤ i ∨ e ≤ b) (hbe : b < e → e ≤ xs.length) (hi : i < xs.length) : rehT b e i xs f = xs.getD i [] :: rehT b e (i + 1) xs f := by
  unfold rehT
  rw [List.getD_eq_getElem?_getD, List.getElem?_eq_getElem hi, Option.getD_some]
  by_cases hc : i < b ∧ b < e
  · rw [if_pos ⟨by omega, hc.2⟩, if_pos ⟨by omega, hc.2⟩]
    have := hbe hc.2
    rw [List.drop_eq_getElem_cons (show i < (xs.take b).length by rw [List.length_take]; omega), List.getElem_take]; rfl
  · by_cases h2 : i ≤ b ∧ b < e
    · omega
    · rw [if_neg h2, if_neg (by omega), List.drop_eq_getElem_cons hi]
theorem upB_step {H : List Int → List Int → Option (List Int)} {xs : List (List Int)} {j e : Nat} {s f : List Int} (h : upB_ H ((xs.take e).drop j) s = some f) (hj : j < e) (he : e ≤ xs.length) :
    ∃ t, H (xs.getD j []) s = some t ∧ upB_ H ((xs.take e).drop (j + 1)) t = some f := by
  rw [List.drop_eq_getElem_cons (show j < (xs.take e).length by rw [List.length_take]; omega), upB_] at h
  obtain ⟨t, h1, h2⟩ := Option.bind_eq_some_iff.1 h
  refine ⟨t, ?_, h2⟩
  rw [List.getD_eq_getElem?_getD, List.getElem?_eq_getElem (by omega), Option.getD_some, ← h1, List.getElem_take]
theorem heads_C {w : World} {base B : Nat} {A : Option Addr} {n c : Nat} {ok : Nat → Prop} {hs : List SH} {out : List (List Int)} (h : kSH.R 27 w base ok (.slice A n c) hs) (hl : out.length ≤ hs.length)
    (ht : ∀ (j : Nat) (s : SH) (b : List Int), hs[j]? = some s → out[j]? = some b → Txt B w s b) : Kd.C (Kd.slice 5 (Kd.int .u8)) w A out.length out := by
  obtain ⟨h1, h2, h3⟩ := Kd.R_reads' h
  refine ⟨rfl, Nat.le_trans hl h3.2.1, fun hp => ?_⟩
  obtain ⟨ad, e, hc⟩ := h3.2.2 (by omega)
  refine ⟨ad, e, fun j b hj => ?_⟩
  have hjl : j < hs.length := by have := (List.getElem?_eq_some_iff.1 hj).1; omega
  obtain ⟨⟨As, ns, c1⟩, hsj⟩ : ∃ s, hs[j]? = some s := ⟨_, List.getElem?_eq_getElem hjl⟩
  obtain ⟨cs, k1, k2, k3⟩ := hc j _ hsj
  obtain ⟨t1, t2, t3⟩ := (ht j _ b hsj hj).read
  refine ⟨cs, k1, ⟨As, c1, ?_, t2, t3⟩, k3⟩
  rw [← t1]; exact k2
theorem put_hd {W : World} {base g n cap : Nat} {ok : Nat → Prop} {hs : List SH} (hS : kSH.R 27 W base ok (.slice (some ⟨g, 0, none⟩) n cap) hs) (j : Nat) (h : SH) :
    kSH.R 27 (W.setCell ⟨g, j, none⟩ (shE h)) base ok (.slice (some ⟨g, 0, none⟩) n cap) (hs.set j h) ∧ Pres5 W (W.setCell ⟨g, j, none⟩ (shE h)) ∧ ∀ (q t : Nat) (cells : Array Value), t ≠ 27 → W.heap[q]? = some (.cells cells t (0, 0)) → (W.setCell ⟨g, j, none⟩ (shE h)).heap[q]? = some (.cells cells t (0, 0)) := by
  obtain ⟨cH, hcH⟩ := Kd.R_typed hS g rfl
  have := Kd.R_putn (enc := shE) hS (j : Int) h
  rw [Int.toNat_natCast] at this
  refine ⟨this, Pres5.set hcH (by decide) j (shE h), fun q t cells ht hq => ?_⟩
  rw [Below.heap_setCell W ⟨g, j, none⟩ (shE h) q (blk_other hq hcH ht)]; exact hq
theorem outs_put {w w' : World} {base : Nat} {hs : List SH} {out : List (List Int)} {h : SH} {x : List Int} (hl : out.length < hs.length) (ho : ∀ (j : Nat) (s : SH) (b : List Int), hs[j]? = some s → out[j]? = some b → Txt base w s b) (hp : Pres5 w w') (hx : Txt base w h x) :
    ∀ (j : Nat) (s : SH) (b : List Int), (hs.set out.length h)[j]? = some s → (out ++ [x])[j]? = some b → Txt base w' s b := by
  intro j s b h1 h2
  by_cases e : j = out.length
  · subst e
    rw [List.getElem?_set_self hl] at h1
    rw [List.getElem?_append_right (Nat.le_refl _), Nat.sub_self] at h2
    obtain rfl := Option.some.inj h1
    obtain rfl := Option.some.inj h2
    exact hx.pres hp
  · have hj : j < out.length := by
      have := (List.getElem?_eq_some_iff.1 h2).1
      rw [List.length_append, List.length_singleton] at this; omega
    rw [List.getElem?_set_ne (by omega)] at h1
    rw [List.getElem?_append_left hj] at h2
    exact (ho j s b h1 h2).pres hp
theorem snoc_len (out : List (List Int)) (x : List Int) : ((out ++ [x]).length : Int) = (out.length : Int) + 1 := by rw [List.length_append]; rfl
set_option maxHeartbeats 16000000 in
set_option maxRecDepth 100000 in
theorem rehash.calls (k : Nat) (a0 a1 a2 a3 a4 a5 : Int) (A : Option Addr) (c n b e : Nat) (z1 z2 : Int) (v : Value) (xs : List (List Int)) (f : List Int) (base : Nat) (w : World) (hbase : base ≤ w.heap.size)
    (hx : Kd.R (Kd.slice 5 (Kd.int .u8)) 27 w base (fun _ => True) v xs) (hn : xs.length = n) (hb63 : b < 4611686018427387904) (he63 : e < 4611686018427387904) (hbe : b < e → e ≤ n)
    (hf : b < e → upB_ (impl_toy_HashChildren.f k a0 a1 a2 a3 a4 a5) ((xs.take e).drop (b + 1)) (xs.getD b []) = some f) :
    Calls Tryd.prog 64 #[.agg #[.slice A n c, .int .i64 (b : Int), .int .i64 (e : Int), .int .u64 z1, .int .u64 z2], v, .func (.func 50) #[toyV a0 a1 a2 a3 a4 a5] #[]] w fun ex w' => ∃ A' c', ex = .returned (.tuple #[.slice A' (rehL b e xs f).length c', .nilIface]) ∧ (rehL b e xs f).length ≤ c' ∧ Kd.C (Kd.slice 5 (Kd.int .u8)) w' A' (rehL b e xs f).length (rehL b e xs f) ∧ Below base w w' := by
  obtain ⟨ss, hsl, hRow, hTx⟩ := rows_SH hx
  obtain ⟨s0, rfl⟩ := kSH_val hRow
  obtain ⟨A0, n0, c0⟩ := s0
  obtain ⟨r1, r2, r3⟩ := Kd.R_reads' hRow
  have r1 : n0 = ss.length := r1
  subst r1
  have hmax : ss.length ≤ 9223372036854775807 := r3.2.1
  subst hn
  rw [hsl] at hRow r2 hmax ⊢
  have HS0 := Aside0.mk hRow
  have HT0 := Aside0.mk hTx
  have HSL := Aside0.mk hsl
  have HBE := Aside0.mk hbe
  have HF := Aside0.mk hf
  have HBS := Aside0.mk hbase
  have HR2 := Aside0.mk r2
  have HB63 := Aside0.mk hb63
  have HE63 := Aside0.mk he63
  clear hRow hTx hbe hf hbase r2 r3 hx hb63 he63 hsl
  have hm := methHC a0 a1 a2 a3 a4 a5
  dsimp only [shE]
  go_enter Tryd.func64, Tryd.ntmps64
  go_wp2_with (fail)
  go_quiet (fail)
  go_wp2_with (fail)
  have BK := Aside0.mk (blk_new w (Obj.cells #[Value.slice A xs.length c, Value.int IntKind.i64 (b : Int), Value.int IntKind.i64 (e : Int), Value.int IntKind.u64 z1, Value.int IntKind.u64 z2] 112))
  have HB := Aside0.mk (below_alloc (Below.refl w.heap.size w) (Obj.cells #[Value.slice A xs.length c, Value.int IntKind.i64 (b : Int), Value.int IntKind.i64 (e : Int), Value.int IntKind.u64 z1, Value.int IntKind.u64 z2] 112))
  replace BK := Aside0.mk (blk_drewN BK.out nq)
  replace HB := Aside0.mk (pw_below_drewN HB.out nq)
  generalize (w.alloc (Obj.cells #[Value.slice A xs.length c, Value.int IntKind.i64 (b : Int), Value.int IntKind.i64 (e : Int), Value.int IntKind.u64 z1, Value.int IntKind.u64 z2] 112)).drewN nq = W at BK HB ⊢
  have HS := Aside0.mk (Kd.R_below HS0.out HB.out)
  have HTX := Aside0.mk (fun j s b h1 h2 => (HT0.out j s b h1 h2).pres (Pres5.below HB.out))
  replace HB := Aside0.mk (HB.out.mono HBS.out)
  clear HS0 HT0
  go_loopg [10, 11, 13] xs.length (fun kq v10 v11 v13 w' => ∃ (i : Nat) (out : List (List Int)) (hs : List SH), v10 = .int .i64 (out.length : Int) ∧ v11 = .int .i64 (i : Int) ∧ Aside0 (i + kq = xs.length) ∧ Aside0 (out.length ≤ i) ∧ Aside0 (i ≤ b ∨ e ≤ i ∨ e ≤ b) ∧ Aside0 (out ++ rehT b e i xs f = rehL b e xs f) ∧ Aside0 (kSH.R 27 w' base (fun _ => True) (.slice A0 xs.length c0) hs) ∧ Aside0 (hs.length = xs.length) ∧ Aside0 (∀ j, i ≤ j → hs[j]? = ss[j]?) ∧ Aside0 (∀ (j : Nat) (s : SH) (b : List Int), hs[j]? = some s → out[j]? = some b → Txt base w' s b) ∧ Aside0 (∀ (j : Nat) (s : SH) (b : List Int), ss[j]? = some s → xs[j]? = some b → Txt base w' s b) ∧ Aside0 (w'.heap[w.heap.size]? = some (.cells #[Value.slice A xs.length c, Value.int IntKind.i64 (b : Int), Value.int IntKind.i64 (e : Int), Value.int IntKind.u64 z1, Value.int IntKind.u64 z2] 112 (0, 0))) ∧ Aside0 (Below base w w'))
  case atStart => exact ⟨0, [], ss, rfl, rfl, ⟨by omega⟩, ⟨Nat.zero_le _⟩, ⟨.inl (Nat.zero_le _)⟩, ⟨by rw [List.nil_append, rehT_zero]⟩, HS, HSL, ⟨fun _ _ => rfl⟩, ⟨fun j s b _ h => by simp at h⟩, HTX, BK, HB⟩
  case round =>
    clear HS HTX BK HB
    obtain ⟨i, out, hs, rfl, rfl, HI, HCU, HIB, HEQ, HS, HHL, HSAME, HOUT, HTX, BK, HB⟩ := hrel
    cases gk with
    | zero =>
      have ei : i = xs.length := by have := HI.out; omega
      have heq : out = rehL b e xs f := by
        have h := HEQ.out
        have : rehT b e i xs f = [] := by
          unfold rehT
          rw [if_neg (by rintro ⟨h1, h2⟩; have := HBE.out h2; omega), List.drop_of_length_le (by omega)]
        rw [this, List.append_nil] at h
        exact h
      have hle : out.length ≤ xs.length := by have := HCU.out; omega
      have d1 : decide ((i : Int) < (xs.length : Int)) = false := decide_eq_false (by omega)
      have d2 : decide (i < xs.length) = false := decide_eq_false (by omega)
      obtain ⟨i0, hi0, _, hsz, _⟩ := info_parts info27
      have hcut := cut_to (P := Tryd.prog) 25 27 .i64 Tryd.underlying25 hi0 A0 xs.length c0 (out.length : Int) (by omega) (by omega) HR2.out
      rw [Int.toNat_natCast] at hcut
      have HC := Aside0.mk (heads_C HS.out (by rw [HHL.out]; exact hle) HOUT.out)
      have HLE := Aside0.mk (Nat.le_trans hle HR2.out)
      have HE := Aside0.mk heq
      clear heq hle ei hi0 hsz
      go_wp2
      go_ret2
      rw [← HE.out]
      exact ⟨_, _, rfl, HLE.out, HC.out, HB.out⟩
    | succ k1 =>
      have hi : i < xs.length := by have := HI.out; omega
      have hmx := hmax
      have d1 : decide ((i : Int) < (xs.length : Int)) = true := decide_eq_true (by omega)
      have d2 : decide (i < xs.length) = true := decide_eq_true hi
      obtain ⟨g0, cc, e0, hg0⟩ := kSH_form (s := (A0, xs.length, c0)) HS.out (by have := HHL.out; omega)
      simp only [Prod.mk.injEq] at e0
      obtain ⟨rfl, -, rfl⟩ := e0
      obtain ⟨⟨A1, n1, c1'⟩, hsi⟩ : ∃ s, ss[i]? = some s := ⟨_, List.getElem?_eq_getElem (by have := HSL.out; omega)⟩
      obtain ⟨x, hxi⟩ : ∃ x, xs[i]? = some x := ⟨_, List.getElem?_eq_getElem hi⟩
      have hti := HTX.out i _ _ hsi hxi
      have HXI := Aside0.mk hxi
      have hx1 := (kSH_cell HS.out ((HSAME.out i (Nat.le_refl _)).trans hsi)).1
      replace hx1 : World.cell? _ ⟨g0, i, none⟩ = some (.slice A1 n1 c1') := hx1
      obtain ⟨sc, hsc⟩ : ∃ s, hs[out.length]? = some s := ⟨_, List.getElem?_eq_getElem (by have := HHL.out; have := HCU.out; omega)⟩
      have e60 := blk_cell BK.out 1
      replace e60 : World.cell? _ ⟨w.heap.size, 1, none⟩ = some (.int .i64 (b : Int)) := e60
      have e61 := blk_cell BK.out 2
      replace e61 : World.cell? _ ⟨w.heap.size, 2, none⟩ = some (.int .i64 (e : Int)) := e61
      have l0 : 0 ≤ (i : Int) := by omega
      have l1 : (i : Int) < (xs.length : Int) := by omega
      have l2 : 0 ≤ (out.length : Int) := by omega
      have l3 : (out.length : Int) < (xs.length : Int) := by have := HCU.out; omega
      have l4 : decide ((out.length : Int) < (xs.length : Int)) = true := decide_eq_true l3
      have l5 : decide (out.length < xs.length) = true := decide_eq_true (by omega)
      have HSI := Aside0.mk hsi
      have HTI := Aside0.mk hti
      have HMX := Aside0.mk hmx
      have HG0 := Aside0.mk hg0
      have HIL := Aside0.mk hi
      by_cases hin : b ≤ i ∧ i < e
      · have hib : i = b := by have := HIB.out; omega
        subst hib
        have hbe := hin.2
        have hen := HBE.out hbe
        have g1 : decide ((i : Int) ≥ (i : Int)) = true := decide_eq_true (by omega)
        have g2 : decide ((i : Int) ≤ (i : Int)) = true := decide_eq_true (by omega)
        have g4 : decide ((i : Int) < (e : Int)) = true := decide_eq_true (by omega)
        have g5 : decide (i < e) = true := decide_eq_true hbe
        have hup := HF.out hbe
        rw [List.getD_eq_getElem?_getD, hxi, Option.getD_some] at hup
        have HUP := Aside0.mk hup
        have HBE2 := Aside0.mk hbe
        have HEN := Aside0.mk hen
        clear hin hbe hen hup hsc hsi hti hmx hg0 hi hxi
        go_wp2_with (fail)
        rename World => W1
        go_loopg [11, 13] (e - (i + 1)) (fun kq v11 v13 w' => ∃ (j : Nat) (s : SH) (t : List Int), v11 = .int .i64 (j : Int) ∧ v13 = .slice s.1 s.2.1 s.2.2 ∧ Aside0 (j + kq = e) ∧ Aside0 (i < j) ∧ Aside0 (Txt base w' s t) ∧ Aside0 (upB_ (impl_toy_HashChildren.f k a0 a1 a2 a3 a4 a5) ((xs.take e).drop j) t = some f) ∧ Aside0 (Below W1.heap.size W1 w'))
        case atStart => exact ⟨i + 1, (A1, n1, c1'), x, rfl, rfl, ⟨by have := HBE2.out; omega⟩, ⟨by omega⟩, HTI, HUP, ⟨Below.refl _ _⟩⟩
        case round =>
          clear HTI HUP hx1 e60 e61 d1 d2 l0 l1 l2 l3 l4 l5 g1 g2 g4 g5
          obtain ⟨j, ⟨A2, n2, c2⟩, t, rfl, rfl, HJ, HIJ, HTT, HU, HB1⟩ := hrel
          dsimp only
          obtain ⟨rfl, tt2, tt3⟩ := HTT.out.read
          have HT2 := Aside0.mk tt2
          have HT3 := Aside0.mk tt3
          clear tt2 tt3
          have HS2 := Aside0.mk (Kd.R_below HS.out HB1.out)
          have BK2 := Aside0.mk (blk_below BK.out HB1.out)
          have e61 := blk_cell BK2.out 2
          replace e61 : World.cell? _ ⟨w.heap.size, 2, none⟩ = some (.int .i64 (e : Int)) := e61
          have he63 := HE63.out
          cases gk with
          | zero =>
            have ej : j = e := by have := HJ.out; omega
            subst ej
            have d1 : decide ((j : Int) < (j : Int)) = false := decide_eq_false (by omega)
            have d2 : decide (j < j) = false := decide_eq_false (by omega)
            have ht : t = f := by
              have h := HU.out
              rw [List.drop_of_length_le (by rw [List.length_take]; omega)] at h
              exact Option.some.inj h
            obtain ⟨sc, hsc⟩ : ∃ s, hs[out.length]? = some s := ⟨_, List.getElem?_eq_getElem (by have := HHL.out; have := HCU.out; have := HIL.out; omega)⟩
            obtain ⟨f1, f2⟩ := kSH_cell HS2.out hsc
            obtain ⟨s1, s2, s3⟩ := sc
            replace f1 : World.cell? _ ⟨g0, out.length, none⟩ = some (.slice s1 s2 s3) := f1
            have l2 : 0 ≤ (out.length : Int) := by omega
            have l3 : (out.length : Int) < (xs.length : Int) := by have := HCU.out; have := HIL.out; omega
            have l4 : decide ((out.length : Int) < (xs.length : Int)) = true := decide_eq_true l3
            have l5 : decide (out.length < xs.length) = true := decide_eq_true (by omega)
            have l6 : 1 ≤ (j : Int) := by have := HIJ.out; omega
            have HTF := Aside0.mk ht
            clear hsc ht
            go_wp2
            go_roundg (xs.length - j)
            case measure => have := HIJ.out; have := HI.out; omega
            case rel =>
              obtain ⟨q1, q2, q3⟩ := put_hd HS2.out out.length (A2, t.length, c2)
              have p1 := Pres5.below HB1.out
              refine ⟨j, out ++ [t], hs.set out.length (A2, t.length, c2), by rw [snoc_len], by first | rfl | (congr 1), ⟨by have := HEN.out; omega⟩, ⟨by have := HCU.out; have := HIJ.out; rw [List.length_append, List.length_singleton]; omega⟩, ⟨.inr (.inl (Nat.le_refl _))⟩, ⟨?_⟩, ⟨q1⟩, ⟨by rw [List.length_set]; exact HHL.out⟩, ⟨fun m hm => by rw [List.getElem?_set_ne (by have := HCU.out; have := HIJ.out; omega)]; exact HSAME.out m (by have := HIJ.out; omega)⟩, ⟨outs_put (by have := HHL.out; have := HCU.out; have := HIL.out; omega) (fun j s b h1 h2 => (HOUT.out j s b h1 h2).pres p1) q2 HTT.out⟩, ⟨fun j s b h1 h2 => ((HTX.out j s b h1 h2).pres p1).pres q2⟩, ⟨q3 _ _ _ (by decide) BK2.out⟩, ⟨(HB.out.trans (HB1.out.mono (Nat.le_trans HBS.out HB.out.size))).setCell (p := ⟨g0, out.length, none⟩) HG0.out _⟩⟩
              have h := HEQ.out
              rw [rehT_in f HBE2.out HEN.out] at h
              rw [HTF.out, List.append_assoc]; exact h
          | succ k2 =>
            have hje : j < e := by have := HJ.out; omega
            have hjl : j < xs.length := by have := HEN.out; omega
            have d1 : decide ((j : Int) < (e : Int)) = true := decide_eq_true (by omega)
            have d2 : decide (j < e) = true := decide_eq_true hje
            have l0 : 0 ≤ (j : Int) := by omega
            have l1 : (j : Int) < (xs.length : Int) := by omega
            have l4 : decide ((j : Int) < (xs.length : Int)) = true := decide_eq_true l1
            have l5 : decide (j < xs.length) = true := decide_eq_true hjl
            obtain ⟨⟨A3, n3, c3⟩, hsj⟩ : ∃ s, ss[j]? = some s := ⟨_, List.getElem?_eq_getElem (by have := HSL.out; omega)⟩
            obtain ⟨y, hy⟩ : ∃ y, xs[j]? = some y := ⟨_, List.getElem?_eq_getElem hjl⟩
            have hx1 := (kSH_cell HS2.out ((HSAME.out j (by have := HIJ.out; omega)).trans hsj)).1
            replace hx1 : World.cell? _ ⟨g0, j, none⟩ = some (.slice A3 n3 c3) := hx1
            obtain ⟨rfl, y2, y3⟩ := ((HTX.out j _ _ hsj hy).pres (Pres5.below HB1.out)).read
            obtain ⟨t', ht1, ht2⟩ := upB_step HU.out hje HEN.out
            rw [List.getD_eq_getElem?_getD, hy, Option.getD_some] at ht1
            have HY2 := Aside0.mk y2
            have HY3 := Aside0.mk y3
            have HT1 := Aside0.mk ht1
            have HU2 := Aside0.mk ht2
            clear hje hjl hsj hy y2 y3 ht1 ht2
            go_wp2_with (fail)
            refine (impl_toy_HashChildren.calls k a0 a1 a2 a3 a4 a5 A3 c3 y A2 c2 t t' _ HY3.out HY2.out HT3.out HT2.out HT1.out).mono ?_
            rintro ex w4 ⟨v4, rfl, hR4, hb4⟩
            dsimp only
            obtain ⟨s4, rfl⟩ := kSH_val' hR4
            obtain ⟨A4, n4, c4⟩ := s4
            have HR4 := Aside0.mk (Txt.of_R (base := base) (s := (A4, n4, c4)) hR4 (Nat.le_trans (Nat.le_trans HBS.out HB.out.size) HB1.out.size))
            have HB4 := Aside0.mk (HB1.out.trans (hb4.mono HB1.out.size))
            clear hR4 hb4
            dsimp only [shE]
            go_wp2
            go_roundg k2
            case measure => omega
            case rel => exact ⟨j + 1, (A4, n4, c4), t', by first | rfl | (congr 1), rfl, ⟨by have := HJ.out; omega⟩, ⟨by have := HIJ.out; omega⟩, HR4, HU2, HB4⟩
      · have hp : i < b ∨ e ≤ i ∨ e ≤ b := by have := HIB.out; omega
        have HP := Aside0.mk hp
        obtain ⟨f1, f2⟩ := kSH_cell HS.out hsc
        obtain ⟨s1, s2, s3⟩ := sc
        replace f1 : World.cell? _ ⟨g0, out.length, none⟩ = some (.slice s1 s2 s3) := f1
        clear hsc hsi hti hmx hg0 hi hxi
        by_cases hb : b ≤ i
        · have g1 : decide ((i : Int) ≥ (b : Int)) = true := decide_eq_true (by omega)
          have g2 : decide ((b : Int) ≤ (i : Int)) = true := decide_eq_true (by omega)
          have g3 : decide (b ≤ i) = true := decide_eq_true hb
          have g4 : decide ((i : Int) < (e : Int)) = false := decide_eq_false (by omega)
          have g5 : decide (i < e) = false := decide_eq_false (by omega)
          clear hin hp hb
          go_wp2
          go_roundg k1
          case measure => omega
          case rel =>
            obtain ⟨q1, q2, q3⟩ := put_hd HS.out out.length (A1, n1, c1')
            refine ⟨i + 1, out ++ [x], hs.set out.length (A1, n1, c1'), by rw [snoc_len], by first | rfl | (congr 1), ⟨by have := HI.out; omega⟩, ⟨by have := HCU.out; rw [List.length_append, List.length_singleton]; omega⟩, ⟨by have := HP.out; omega⟩, ⟨?_⟩, ⟨q1⟩, ⟨by rw [List.length_set]; exact HHL.out⟩, ⟨fun j hj => by rw [List.getElem?_set_ne (by have := HCU.out; omega)]; exact HSAME.out j (by omega)⟩, ⟨outs_put (by have := HHL.out; have := HCU.out; have := HIL.out; omega) HOUT.out q2 HTI.out⟩, ⟨fun j s b h1 h2 => (HTX.out j s b h1 h2).pres q2⟩, ⟨q3 _ _ _ (by decide) BK.out⟩, ⟨HB.out.setCell (p := ⟨g0, out.length, none⟩) HG0.out _⟩⟩
            have h := HEQ.out
            rw [rehT_out f HP.out HBE.out HIL.out, List.getD_eq_getElem?_getD, HXI.out] at h
            rw [List.append_assoc]; exact h
        · have g1 : decide ((i : Int) ≥ (b : Int)) = false := decide_eq_false (by omega)
          have g2 : decide ((b : Int) ≤ (i : Int)) = false := decide_eq_false (by omega)
          have g3 : decide (b ≤ i) = false := decide_eq_false hb
          clear hin hp hb
          go_wp2
          go_roundg k1
          case measure => omega
          case rel =>
            obtain ⟨q1, q2, q3⟩ := put_hd HS.out out.length (A1, n1, c1')
            refine ⟨i + 1, out ++ [x], hs.set out.length (A1, n1, c1'), by rw [snoc_len], by first | rfl | (congr 1), ⟨by have := HI.out; omega⟩, ⟨by have := HCU.out; rw [List.length_append, List.length_singleton]; omega⟩, ⟨by have := HP.out; omega⟩, ⟨?_⟩, ⟨q1⟩, ⟨by rw [List.length_set]; exact HHL.out⟩, ⟨fun j hj => by rw [List.getElem?_set_ne (by have := HCU.out; omega)]; exact HSAME.out j (by omega)⟩, ⟨outs_put (by have := HHL.out; have := HCU.out; have := HIL.out; omega) HOUT.out q2 HTI.out⟩, ⟨fun j s b h1 h2 => (HTX.out j s b h1 h2).pres q2⟩, ⟨q3 _ _ _ (by decide) BK.out⟩, ⟨HB.out.setCell (p := ⟨g0, out.length, none⟩) HG0.out _⟩⟩
            have h := HEQ.out
            rw [rehT_out f HP.out HBE.out HIL.out, List.getD_eq_getElem?_getD, HXI.out] at h
            rw [List.append_assoc]; exact h
end Go.Proofs.YtielnphmcaecdaaDoor.PAll
