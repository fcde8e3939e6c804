-- Written by a program of this session (wip/tools)
import Derived.Test.YtielnphmcaecdaaDoorQCSExtVerB
import Derived.Deep.RegionHeldLaw
namespace Go.Proofs.YtielnphmcaecdaaDoor.PAll
open Go.IntWalk Go.RowKit Go.Proofs.YtielnphmcaecdaaDoorW.PrintWords Go.Proofs.YtielnphmcaecdaaDoorW.PrintLast Go.Proofs.YtielnphmcaecdaaDoorW.PrintMore
set_option linter.unusedVariables false
set_option linter.unusedSimpArgs false
def verT (H : List Int → List Int → Option (List Int)) (mask : Int) (i : Nat) (q : List Int) (l : List (List Int)) (r1 r2 : List Int) : Option (Int × List Int) :=
  (upR_ H mask (l.take i) 0 q).bind fun t => (upB_ H (l.drop i) t).bind fun h1 =>
    if ((strOfNums h1).toList == (strOfNums r1).toList) = true then (up_ H mask (l.take i) 0 q).bind fun u => (upB_ H (l.drop i) u).bind fun h2 => some (vmat h2 r2)
    else some (1, h1)
def verC (k : Nat) (H : List Int → List Int → Option (List Int)) (s n : Int) (l : List (List Int)) (r1 r2 : List Int) : Option (Int × List Int) :=
  if s = n then (if l.length = 0 then some (vmat r1 r2) else some (2, []))
  else if l.length = 0 then some (2, [])
  else (proof_decompInclProof.f k (s - 1) n).bind fun p => (bits_TrailingZeros64.f s).bind fun z =>
    if 0 ≤ z ∧ z ≤ 63 ∧ z ≤ p.1 ∧ 0 ≤ p.2 ∧ p.1 + p.2 < 1000000 then
      (if s = 2 ^ z.toNat then (if (l.length : Int) = (p.1 - z) + p.2 then verT H ((s - 1) / 2 ^ z.toNat) (p.1 - z).toNat r1 l r1 r2 else some (2, []))
       else (if (l.length : Int) = 1 + (p.1 - z) + p.2 then verT H ((s - 1) / 2 ^ z.toNat) (p.1 - z).toNat (rd_L1 l 0) (l.drop 1) r1 r2 else some (2, [])))
    else none
theorem pow_wrap {z : Nat} (h : z ≤ 63) : IntKind.u64.wrap (2 ^ z) = 2 ^ z := by
  have e : ∀ x : Int, IntKind.u64.wrap x = x % 18446744073709551616 := by intro x; simp [IntKind.wrap, IntKind.bits, IntKind.signed]
  rw [e]
  have h1 : (2 : Nat) ^ z ≤ 2 ^ 63 := Nat.pow_le_pow_right (by omega) h
  rw [show (2 : Nat) ^ 63 = 9223372036854775808 from rfl] at h1
  have h2 : ((2 : Int) ^ z) = ((2 ^ z : Nat) : Int) := (Int.natCast_pow 2 z).symm
  have h3 : ((2 ^ z : Nat) : Int) ≤ 9223372036854775808 := Int.ofNat_le.mpr h1
  have h4 : (0 : Int) ≤ ((2 ^ z : Nat) : Int) := Int.natCast_nonneg _
  rw [h2]
  generalize ((2 ^ z : Nat) : Int) = y at h3 h4 ⊢
  clear h1 h2 e
  omega
set_option maxHeartbeats 800000 in
set_option maxRecDepth 100000 in
theorem verifyConsP.calls (k : Nat) (a0 a1 a2 a3 a4 a5 s n : Int) (A : Option Addr) (c : Nat) (l : List (List Int)) (A1 : Option Addr) (c1 : Nat) (r1 : List Int) (A2 : Option Addr) (c2 : Nat) (r2 : List Int) (o : Int × List Int) (w : World) (hG : Glob w)
    (hr : Kd.C (Kd.slice 5 (Kd.int .u8)) w A l.length l) (hc : l.length ≤ c) (hr1 : Kd.C (Kd.int .u8) w A1 r1.length r1) (hc1 : r1.length ≤ c1) (hr2 : Kd.C (Kd.int .u8) w A2 r2.length r2) (hc2 : r2.length ≤ c2)
    (hs : 1 ≤ s) (hn : s < n) (hn2 : n < 18446744073709551616) (hl0 : 0 < l.length) (m b : Int) (z i : Nat) (hmz : m - (z : Int) = (i : Int)) (hd : proof_decompInclProof.f k (s - 1) n = some (m, b)) (hz : bits_TrailingZeros64.f s = some (z : Int))
    (hz1 : z ≤ 63) (hb0 : 0 ≤ b) (hmb : (i : Int) + b < 1000000) (hp : s = 2 ^ z)
    (h : (if (l.length : Int) = (i : Int) + b then verT (impl_toy_HashChildren.f k a0 a1 a2 a3 a4 a5) ((s - 1) / 2 ^ z) i r1 l r1 r2 else some (2, [])) = some o) :
    Calls Tryd.prog 75 #[.iface 82 (.agg #[.int .i64 a0, .int .i64 a1, .int .i64 a2, .int .u64 a3, .int .u64 a4, .int .u64 a5]), .int .u64 s, .int .u64 n, .slice A l.length c, .slice A1 r1.length c1, .slice A2 r2.length c2] w fun e w' => ∃ x, e = .returned x ∧ OutV w' o x ∧ Below w.heap.size w w' := by
  obtain ⟨ad, A0, c0, eA, hx1, hl1, hi1⟩ := at_L1 hr (0 : Int) (by omega) (by omega)
  subst eA
  replace hx1 : w.cell? ad = some (.slice A0 (rd_L1 l (0 : Int)).length c0) := hx1
  have hmax : l.length ≤ 9223372036854775807 := hr.2.1
  obtain ⟨i0, hi0, _, hsz, _⟩ := info_parts info27
  have HC := Aside0.mk hc
  have HR := Aside0.mk hr
  have HR1 := Aside0.mk hr1
  have HC1 := Aside0.mk hc1
  have HR2 := Aside0.mk hr2
  have HC2 := Aside0.mk hc2
  have HD := Aside0.mk hd
  have HZ := Aside0.mk hz
  have HGL := Aside0.mk hG
  have HI1 := Aside0.mk hi1
  have HL1 := Aside0.mk hl1
  have HX1 := Aside0.mk hx1
  have g1 : decide (n < s) = false := decide_eq_false (by omega)
  have g2 : (s == n) = false := beq_eq_false_iff_ne.mpr (by omega)
  have g3 : (s == 0) = false := beq_eq_false_iff_ne.mpr (by omega)
  have g4 : ((l.length : Int) == 0) = false := beq_eq_false_iff_ne.mpr (by omega)
  have g5 : IntKind.u64.wrap (s - 1) = s - 1 := by
    have e : IntKind.u64.wrap (s - 1) = (s - 1) % 18446744073709551616 := by simp [IntKind.wrap, IntKind.bits, IntKind.signed]
    rw [e]; omega
  have g6 : wrap64 (m - z) = m - z := by unfold wrap64; omega
  have HMZ := Aside0.mk hmz
  have hzm : (z : Int) ≤ m := by omega
  have hmm : m < 2000000 := by omega
  have hmb2 : m + b < 2000000 := by omega
  have g7 : (s == IntKind.u64.wrap (2 ^ z)) = true := beq_iff_eq.mpr (by rw [pow_wrap hz1]; exact hp)
  clear hc hr hr1 hc1 hr2 hc2 hd hz hG hi1 hl1 hx1 hp
  by_cases hlen : (l.length : Int) = (i : Int) + b
  · rw [if_pos hlen] at h
    have g8 : ((l.length : Int) != m - (z : Int) + b) = false := bne_eq_false_iff_eq.mpr (by omega)
    have H' := h
    have hrL := HR.out
    have hcL2 := HC.out
    have hLl := hlen
    unfold verT at H'
    obtain ⟨t, ht, H'⟩ := Option.bind_eq_some_iff.mp H'
    obtain ⟨h1, hh1, H'⟩ := Option.bind_eq_some_iff.mp H'
    have hcut1 := cut_to (P := Tryd.prog) 25 27 .i64 Tryd.underlying25 hi0 (some ad) l.length c (i : Int) (by omega) (by omega) hcL2
    have hcut2 := cut_from (P := Tryd.prog) 25 27 .i64 Tryd.underlying25 hi0 1 hsz (some ad) l.length c (i : Int) (by omega) (by omega)
    have hi : i ≤ l.length := by omega
    have hT1 := Kd.C_take (m := i) hrL hi
    have hT2 := Kd.C_drop (m := i) (c := c) hrL hi hcL2
    have ht1 : (l.take i).length = i := by rw [List.length_take]; omega
    have ht2 : (l.drop i).length = l.length - i := by rw [List.length_drop]
    have hc1 : (l.take i).length ≤ c := by omega
    have hc2 : (l.drop i).length ≤ c - i := by omega
    obtain ⟨x1, hx1⟩ : ∃ x1, x1 = l.take i := ⟨_, rfl⟩
    obtain ⟨x2, hx2⟩ : ∃ x2, x2 = l.drop i := ⟨_, rfl⟩
    obtain ⟨Ad, hAd⟩ : ∃ Ad, Ad = (if c = i then (some ad) else ((some ad) : Option Addr).map (·.add (i * 1))) := ⟨_, rfl⟩
    obtain ⟨cd, hcd⟩ : ∃ cd, cd = c - i := ⟨_, rfl⟩
    rw [← hx1] at hT1 ht1 hc1 ht H'
    rw [← hx2] at hT2 ht2 hc2 hh1 H'
    replace hT2 : Kd.C (Kd.slice 5 (Kd.int .u8)) w Ad x2.length x2 := by rw [hAd]; exact hT2
    rw [Int.toNat_natCast] at hcut1 hcut2
    replace hcut1 : ∀ W : World, (Instr.slice 25 (.slice (some ad) l.length c) none (some (.int .i64 (m - (z : Int)))) none).run Tryd.prog W = .ok (.slice (some ad) x1.length c) W := by intro W; rw [ht1, hmz]; exact hcut1 W
    replace hcut2 : ∀ W : World, (Instr.slice 25 (.slice (some ad) l.length c) (some (.int .i64 (m - (z : Int)))) none none).run Tryd.prog W = .ok (.slice Ad x2.length cd) W := by intro W; rw [ht2, hAd, hcd, hmz]; exact hcut2 W
    rw [← hcd] at hc2
    have hti : (i : Int) = (x1.length : Int) := by rw [ht1]
    have HT1 := Aside0.mk hT1
    have HT2 := Aside0.mk hT2
    have HCT1 := Aside0.mk hc1
    have HCT2 := Aside0.mk hc2
    have HT := Aside0.mk ht
    have HH1 := Aside0.mk hh1
    have H1 := Aside0.mk H'
    have HTI := Aside0.mk hti
    have HTN := Aside0.mk ht1
    have HLE := Aside0.mk hlen
    have HLL := Aside0.mk hLl
    have HII := Aside0.mk hi
    clear h hmz hlen hLl hi hi0 hsz hcL2 H' ht hh1 hT1 hT2 hc1 hc2 hx1 hx2 hAd hcd hti ht1 ht2 hrL
    go_enter Tryd.func75, Tryd.ntmps75
    go_wp2_with (fail)
    refine (proof_decompInclProof.calls k (s - 1) n _ b w HD.out).mono ?_
    rintro ex w1 ⟨rfl, ⟨d1, rfl⟩⟩
    dsimp only
    have HB1 := Aside0.mk (pw_below_drewN (Below.refl w.heap.size w) d1)
    generalize w.drewN d1 = W1 at HB1 ⊢
    go_wp2_with (fail)
    refine (bits_TrailingZeros64.calls _ _ W1 (HGL.out.below HB1.out) HZ.out).mono ?_
    rintro ex w2 ⟨rfl, ⟨d2, rfl⟩⟩
    dsimp only
    have HB := Aside0.mk (pw_below_drewN HB1.out d2)
    generalize W1.drewN d2 = W at HB ⊢
    have x1_ : W.cell? ad = some (.slice A0 (rd_L1 l (0 : Int)).length c0) := (HB.out.cell (World.block_lt_of_cell? w _ HX1.out)).trans HX1.out
    have HQ := Aside0.mk (show TxC W (.slice A1 r1.length c1) r1 from ⟨_, _, rfl, HC1.out, Kd.C_below HR1.out HB.out⟩)
    go_wp2_with (fail)
    refine (chainInnerRight.calls k a0 a1 a2 a3 a4 a5 (.slice A1 r1.length c1) r1 (some ad) c x1 ((s - 1) / 2 ^ z) t W HQ.out (Kd.C_below HT1.out HB.out) HCT1.out HT.out).mono ?_
    rintro e w3 ⟨v3, rfl, hR3, hb3⟩
    have HR3 := Aside0.mk hR3
    have HB3 := Aside0.mk (HB.out.trans (hb3.mono HB.out.size))
    replace HQ := Aside0.mk (HQ.out.below hb3)
    clear hR3 hb3
    dsimp only
    go_wp2_with (fail)
    refine (chainBorder.calls k a0 a1 a2 a3 a4 a5 v3 t Ad cd x2 h1 _ HR3.out (Kd.C_below HT2.out HB3.out) HCT2.out HH1.out).mono ?_
    rintro e w4 ⟨v4, rfl, hR4, hb4⟩
    have HB4 := Aside0.mk (HB3.out.trans (hb4.mono HB3.out.size))
    replace HQ := Aside0.mk (HQ.out.below hb4)
    obtain ⟨A4, c4, rfl, hc4, hR4⟩ := hR4
    have HR4 := Aside0.mk hR4
    have HC4 := Aside0.mk hc4
    clear hR4 hb4 hc4
    dsimp only
    go_wp2_with (fail)
    refine (verifyMatch.calls A4 c4 h1 A1 c1 r1 _ HR4.out HC4.out (Kd.C_below HR1.out HB4.out) HC1.out).mono ?_
    rintro e w5 ⟨v5, rfl, hV5, hb5⟩
    have HB5 := Aside0.mk (HB4.out.trans (hb5.mono HB4.out.size))
    replace HQ := Aside0.mk (HQ.out.below hb5)
    clear hb5
    have H2 := H1.out
    dsimp only
    by_cases heq : ((strOfNums h1).toList == (strOfNums r1).toList) = true
    · rw [if_pos heq] at H2
      unfold vmat at hV5
      rw [if_pos heq] at hV5
      have hv5 : v5 = .nilIface := by
        rcases hV5 with ⟨_, h⟩ | ⟨h, _⟩ | ⟨h, _⟩
        · exact h
        · cases h
        · cases h
      subst hv5
      obtain ⟨u, hu, H2⟩ := Option.bind_eq_some_iff.mp H2
      obtain ⟨h2, hh2, H2⟩ := Option.bind_eq_some_iff.mp H2
      obtain rfl := Option.some.inj H2
      have HU := Aside0.mk hu
      have HH2 := Aside0.mk hh2
      clear H1 H2 hV5 heq hu hh2
      go_wp2_with (fail)
      refine (chainInner.calls k a0 a1 a2 a3 a4 a5 (.slice A1 r1.length c1) r1 (some ad) c x1 ((s - 1) / 2 ^ z) u _ HQ.out (Kd.C_below HT1.out HB5.out) HCT1.out HU.out).mono ?_
      rintro e w6 ⟨v6, rfl, hR6, hb6⟩
      have HR6 := Aside0.mk hR6
      have HB6 := Aside0.mk (HB5.out.trans (hb6.mono HB5.out.size))
      clear hR6 hb6
      dsimp only
      go_wp2_with (fail)
      refine (chainBorder.calls k a0 a1 a2 a3 a4 a5 v6 u Ad cd x2 h2 _ HR6.out (Kd.C_below HT2.out HB6.out) HCT2.out HH2.out).mono ?_
      rintro e w7 ⟨v7, rfl, hR7, hb7⟩
      have HB7 := Aside0.mk (HB6.out.trans (hb7.mono HB6.out.size))
      obtain ⟨A7, c7, rfl, hc7, hR7⟩ := hR7
      have HR7 := Aside0.mk hR7
      have HC7 := Aside0.mk hc7
      clear hR7 hb7 hc7
      dsimp only
      go_wp2_with (fail)
      refine (verifyMatch.calls A7 c7 h2 A2 c2 r2 _ HR7.out HC7.out (Kd.C_below HR2.out HB7.out) HC2.out).mono ?_
      rintro e w8 ⟨v8, rfl, hV8, hb8⟩
      have HV8 := Aside0.mk hV8
      have HB8 := Aside0.mk (HB7.out.trans (hb8.mono HB7.out.size))
      clear hV8 hb8
      dsimp only
      go_wp2
      go_ret
      exact ⟨_, rfl, HV8.out, HB8.out⟩
    · rw [if_neg heq] at H2
      obtain rfl := Option.some.inj H2
      unfold vmat at hV5
      rw [if_neg heq] at hV5
      have hv5 : ∃ Ae ne ce A c, v5 = .iface 163 (.agg #[.slice Ae ne ce, .slice A h1.length c]) ∧ h1.length ≤ c ∧ Kd.C (Kd.int .u8) w5 A h1.length h1 := by
        rcases hV5 with ⟨h, _⟩ | ⟨h, _⟩ | ⟨_, h⟩
        · cases h
        · cases h
        · exact h
      obtain ⟨Ae, ne, ce, A9, c9, rfl, hc9, hC9⟩ := hv5
      have HC9 := Aside0.mk hc9
      have HR9 := Aside0.mk hC9
      clear H1 H2 hV5 heq hc9 hC9
      go_wp2
      go_ret
      exact ⟨_, rfl, Or.inr (Or.inr ⟨rfl, _, _, _, _, _, rfl, HC9.out, HR9.out⟩), HB5.out⟩
  · rw [if_neg hlen] at h
    obtain rfl := Option.some.inj h
    have g8 : ((l.length : Int) != m - (z : Int) + b) = true := bne_iff_ne.mpr (by omega)
    clear h hmz hlen
    go_enter Tryd.func75, Tryd.ntmps75
    go_wp2_with (fail)
    refine (proof_decompInclProof.calls k (s - 1) n _ b w HD.out).mono ?_
    rintro ex w1 ⟨rfl, ⟨d1, rfl⟩⟩
    dsimp only
    have HB1 := Aside0.mk (pw_below_drewN (Below.refl w.heap.size w) d1)
    generalize w.drewN d1 = W1 at HB1 ⊢
    go_wp2_with (fail)
    refine (bits_TrailingZeros64.calls _ _ W1 (HGL.out.below HB1.out) HZ.out).mono ?_
    rintro ex w2 ⟨rfl, ⟨d2, rfl⟩⟩
    dsimp only
    have HB := Aside0.mk (pw_below_drewN HB1.out d2)
    generalize W1.drewN d2 = W at HB ⊢
    have x1_ : W.cell? ad = some (.slice A0 (rd_L1 l (0 : Int)).length c0) := (HB.out.cell (World.block_lt_of_cell? w _ HX1.out)).trans HX1.out
    go_wp2_with (fail)
    refine (errNew3.calls _ W).mono ?_
    rintro ex w3 ⟨a, rfl, hb⟩
    have HB3 := Aside0.mk (HB.out.trans (hb.mono HB.out.size))
    clear hb
    dsimp only
    go_wp2
    go_ret
    exact ⟨_, rfl, Or.inr (Or.inl ⟨rfl, _, rfl⟩), HB3.out⟩
set_option maxHeartbeats 800000 in
set_option maxRecDepth 100000 in
theorem verifyConsN.calls (k : Nat) (a0 a1 a2 a3 a4 a5 s n : Int) (A : Option Addr) (c : Nat) (l : List (List Int)) (A1 : Option Addr) (c1 : Nat) (r1 : List Int) (A2 : Option Addr) (c2 : Nat) (r2 : List Int) (o : Int × List Int) (w : World) (hG : Glob w)
    (hr : Kd.C (Kd.slice 5 (Kd.int .u8)) w A l.length l) (hc : l.length ≤ c) (hr1 : Kd.C (Kd.int .u8) w A1 r1.length r1) (hc1 : r1.length ≤ c1) (hr2 : Kd.C (Kd.int .u8) w A2 r2.length r2) (hc2 : r2.length ≤ c2)
    (hs : 1 ≤ s) (hn : s < n) (hn2 : n < 18446744073709551616) (hl0 : 0 < l.length) (m b : Int) (z i : Nat) (hmz : m - (z : Int) = (i : Int)) (hd : proof_decompInclProof.f k (s - 1) n = some (m, b)) (hz : bits_TrailingZeros64.f s = some (z : Int))
    (hz1 : z ≤ 63) (hb0 : 0 ≤ b) (hmb : (i : Int) + b < 1000000) (hp : ¬ s = 2 ^ z)
    (h : (if (l.length : Int) = 1 + (i : Int) + b then verT (impl_toy_HashChildren.f k a0 a1 a2 a3 a4 a5) ((s - 1) / 2 ^ z) i (rd_L1 l 0) (l.drop 1) r1 r2 else some (2, [])) = some o) :
    Calls Tryd.prog 75 #[.iface 82 (.agg #[.int .i64 a0, .int .i64 a1, .int .i64 a2, .int .u64 a3, .int .u64 a4, .int .u64 a5]), .int .u64 s, .int .u64 n, .slice A l.length c, .slice A1 r1.length c1, .slice A2 r2.length c2] w fun e w' => ∃ x, e = .returned x ∧ OutV w' o x ∧ Below w.heap.size w w' := by
  obtain ⟨ad, A0, c0, eA, hx1, hl1, hi1⟩ := at_L1 hr (0 : Int) (by omega) (by omega)
  subst eA
  replace hx1 : w.cell? ad = some (.slice A0 (rd_L1 l (0 : Int)).length c0) := hx1
  have hmax : l.length ≤ 9223372036854775807 := hr.2.1
  obtain ⟨i0, hi0, _, hsz, _⟩ := info_parts info27
  have HC := Aside0.mk hc
  have HR := Aside0.mk hr
  have HR1 := Aside0.mk hr1
  have HC1 := Aside0.mk hc1
  have HR2 := Aside0.mk hr2
  have HC2 := Aside0.mk hc2
  have HD := Aside0.mk hd
  have HZ := Aside0.mk hz
  have HGL := Aside0.mk hG
  have HI1 := Aside0.mk hi1
  have HL1 := Aside0.mk hl1
  have HX1 := Aside0.mk hx1
  have g1 : decide (n < s) = false := decide_eq_false (by omega)
  have g2 : (s == n) = false := beq_eq_false_iff_ne.mpr (by omega)
  have g3 : (s == 0) = false := beq_eq_false_iff_ne.mpr (by omega)
  have g4 : ((l.length : Int) == 0) = false := beq_eq_false_iff_ne.mpr (by omega)
  have g5 : IntKind.u64.wrap (s - 1) = s - 1 := by
    have e : IntKind.u64.wrap (s - 1) = (s - 1) % 18446744073709551616 := by simp [IntKind.wrap, IntKind.bits, IntKind.signed]
    rw [e]; omega
  have g6 : wrap64 (m - z) = m - z := by unfold wrap64; omega
  have HMZ := Aside0.mk hmz
  have hzm : (z : Int) ≤ m := by omega
  have hmm : m < 2000000 := by omega
  have hmb2 : m + b < 2000000 := by omega
  have g7 : (s == IntKind.u64.wrap (2 ^ z)) = false := beq_eq_false_iff_ne.mpr (by rw [pow_wrap hz1]; exact hp)
  clear hc hr hr1 hc1 hr2 hc2 hd hz hG hi1 hl1 hx1 hp
  by_cases hlen : (l.length : Int) = 1 + (i : Int) + b
  · rw [if_pos hlen] at h
    have g8 : ((l.length : Int) != 1 + (m - (z : Int)) + b) = false := bne_eq_false_iff_eq.mpr (by omega)
    have H' := h
    obtain ⟨L, hL⟩ : ∃ L, L = l.drop 1 := ⟨_, rfl⟩
    obtain ⟨AL, hAL⟩ : ∃ AL, AL = (if c = 1 then some ad else (some ad : Option Addr).map (·.add (1 * 1))) := ⟨_, rfl⟩
    obtain ⟨cL, hcL⟩ : ∃ cL, cL = c - 1 := ⟨_, rfl⟩
    have hLn : L.length = l.length - 1 := by rw [hL, List.length_drop]
    have hrL : Kd.C (Kd.slice 5 (Kd.int .u8)) w AL L.length L := by rw [hL, hAL]; exact Kd.C_drop (m := 1) (c := c) HR.out (by omega) HC.out
    have hcL2 : L.length ≤ cL := by have := HC.out; omega
    have hLl : (L.length : Int) = (i : Int) + b := by omega
    have hcut0 := cut_from (P := Tryd.prog) 25 27 .i64 Tryd.underlying25 hi0 1 hsz (some ad) l.length c 1 (by omega) (by omega)
    replace hcut0 : ∀ W : World, (Instr.slice 25 (.slice (some ad) l.length c) (some (.int .i64 1)) none none).run Tryd.prog W = .ok (.slice AL L.length cL) W := by
      intro W
      rw [hcut0 W, hLn, hAL, hcL]
      rfl
    rw [← hL] at H'
    unfold verT at H'
    obtain ⟨t, ht, H'⟩ := Option.bind_eq_some_iff.mp H'
    obtain ⟨h1, hh1, H'⟩ := Option.bind_eq_some_iff.mp H'
    have hcut1 := cut_to (P := Tryd.prog) 25 27 .i64 Tryd.underlying25 hi0 AL L.length cL (i : Int) (by omega) (by omega) hcL2
    have hcut2 := cut_from (P := Tryd.prog) 25 27 .i64 Tryd.underlying25 hi0 1 hsz AL L.length cL (i : Int) (by omega) (by omega)
    have hi : i ≤ L.length := by omega
    have hT1 := Kd.C_take (m := i) hrL hi
    have hT2 := Kd.C_drop (m := i) (c := cL) hrL hi hcL2
    have ht1 : (L.take i).length = i := by rw [List.length_take]; omega
    have ht2 : (L.drop i).length = L.length - i := by rw [List.length_drop]
    have hc1 : (L.take i).length ≤ cL := by omega
    have hc2 : (L.drop i).length ≤ cL - i := by omega
    obtain ⟨x1, hx1⟩ : ∃ x1, x1 = L.take i := ⟨_, rfl⟩
    obtain ⟨x2, hx2⟩ : ∃ x2, x2 = L.drop i := ⟨_, rfl⟩
    obtain ⟨Ad, hAd⟩ : ∃ Ad, Ad = (if cL = i then AL else (AL : Option Addr).map (·.add (i * 1))) := ⟨_, rfl⟩
    obtain ⟨cd, hcd⟩ : ∃ cd, cd = cL - i := ⟨_, rfl⟩
    rw [← hx1] at hT1 ht1 hc1 ht H'
    rw [← hx2] at hT2 ht2 hc2 hh1 H'
    replace hT2 : Kd.C (Kd.slice 5 (Kd.int .u8)) w Ad x2.length x2 := by rw [hAd]; exact hT2
    rw [Int.toNat_natCast] at hcut1 hcut2
    replace hcut1 : ∀ W : World, (Instr.slice 25 (.slice AL L.length cL) none (some (.int .i64 (m - (z : Int)))) none).run Tryd.prog W = .ok (.slice AL x1.length cL) W := by intro W; rw [ht1, hmz]; exact hcut1 W
    replace hcut2 : ∀ W : World, (Instr.slice 25 (.slice AL L.length cL) (some (.int .i64 (m - (z : Int)))) none none).run Tryd.prog W = .ok (.slice Ad x2.length cd) W := by intro W; rw [ht2, hAd, hcd, hmz]; exact hcut2 W
    rw [← hcd] at hc2
    have hti : (i : Int) = (x1.length : Int) := by rw [ht1]
    have HT1 := Aside0.mk hT1
    have HT2 := Aside0.mk hT2
    have HCT1 := Aside0.mk hc1
    have HCT2 := Aside0.mk hc2
    have HT := Aside0.mk ht
    have HH1 := Aside0.mk hh1
    have H1 := Aside0.mk H'
    have HTI := Aside0.mk hti
    have HTN := Aside0.mk ht1
    have HLE := Aside0.mk hlen
    have HLL := Aside0.mk hLl
    have HII := Aside0.mk hi
    clear h hmz hlen hLl hi hi0 hsz hcL2 H' ht hh1 hT1 hT2 hc1 hc2 hx1 hx2 hAd hcd hL hAL hcL hLn hti ht1 ht2 hrL
    go_enter Tryd.func75, Tryd.ntmps75
    go_wp2_with (fail)
    refine (proof_decompInclProof.calls k (s - 1) n _ b w HD.out).mono ?_
    rintro ex w1 ⟨rfl, ⟨d1, rfl⟩⟩
    dsimp only
    have HB1 := Aside0.mk (pw_below_drewN (Below.refl w.heap.size w) d1)
    generalize w.drewN d1 = W1 at HB1 ⊢
    go_wp2_with (fail)
    refine (bits_TrailingZeros64.calls _ _ W1 (HGL.out.below HB1.out) HZ.out).mono ?_
    rintro ex w2 ⟨rfl, ⟨d2, rfl⟩⟩
    dsimp only
    have HB := Aside0.mk (pw_below_drewN HB1.out d2)
    generalize W1.drewN d2 = W at HB ⊢
    have x1_ : W.cell? ad = some (.slice A0 (rd_L1 l (0 : Int)).length c0) := (HB.out.cell (World.block_lt_of_cell? w _ HX1.out)).trans HX1.out
    have HQ := Aside0.mk (show TxC W (.slice A0 (rd_L1 l 0).length c0) (rd_L1 l 0) from ⟨_, _, rfl, HL1.out, Kd.C_below HI1.out HB.out⟩)
    go_wp2_with (fail)
    refine (chainInnerRight.calls k a0 a1 a2 a3 a4 a5 (.slice A0 (rd_L1 l 0).length c0) (rd_L1 l 0) AL cL x1 ((s - 1) / 2 ^ z) t W HQ.out (Kd.C_below HT1.out HB.out) HCT1.out HT.out).mono ?_
    rintro e w3 ⟨v3, rfl, hR3, hb3⟩
    have HR3 := Aside0.mk hR3
    have HB3 := Aside0.mk (HB.out.trans (hb3.mono HB.out.size))
    replace HQ := Aside0.mk (HQ.out.below hb3)
    clear hR3 hb3
    dsimp only
    go_wp2_with (fail)
    refine (chainBorder.calls k a0 a1 a2 a3 a4 a5 v3 t Ad cd x2 h1 _ HR3.out (Kd.C_below HT2.out HB3.out) HCT2.out HH1.out).mono ?_
    rintro e w4 ⟨v4, rfl, hR4, hb4⟩
    have HB4 := Aside0.mk (HB3.out.trans (hb4.mono HB3.out.size))
    replace HQ := Aside0.mk (HQ.out.below hb4)
    obtain ⟨A4, c4, rfl, hc4, hR4⟩ := hR4
    have HR4 := Aside0.mk hR4
    have HC4 := Aside0.mk hc4
    clear hR4 hb4 hc4
    dsimp only
    go_wp2_with (fail)
    refine (verifyMatch.calls A4 c4 h1 A1 c1 r1 _ HR4.out HC4.out (Kd.C_below HR1.out HB4.out) HC1.out).mono ?_
    rintro e w5 ⟨v5, rfl, hV5, hb5⟩
    have HB5 := Aside0.mk (HB4.out.trans (hb5.mono HB4.out.size))
    replace HQ := Aside0.mk (HQ.out.below hb5)
    clear hb5
    have H2 := H1.out
    dsimp only
    by_cases heq : ((strOfNums h1).toList == (strOfNums r1).toList) = true
    · rw [if_pos heq] at H2
      unfold vmat at hV5
      rw [if_pos heq] at hV5
      have hv5 : v5 = .nilIface := by
        rcases hV5 with ⟨_, h⟩ | ⟨h, _⟩ | ⟨h, _⟩
        · exact h
        · cases h
        · cases h
      subst hv5
      obtain ⟨u, hu, H2⟩ := Option.bind_eq_some_iff.mp H2
      obtain ⟨h2, hh2, H2⟩ := Option.bind_eq_some_iff.mp H2
      obtain rfl := Option.some.inj H2
      have HU := Aside0.mk hu
      have HH2 := Aside0.mk hh2
      clear H1 H2 hV5 heq hu hh2
      go_wp2_with (fail)
      refine (chainInner.calls k a0 a1 a2 a3 a4 a5 (.slice A0 (rd_L1 l 0).length c0) (rd_L1 l 0) AL cL x1 ((s - 1) / 2 ^ z) u _ HQ.out (Kd.C_below HT1.out HB5.out) HCT1.out HU.out).mono ?_
      rintro e w6 ⟨v6, rfl, hR6, hb6⟩
      have HR6 := Aside0.mk hR6
      have HB6 := Aside0.mk (HB5.out.trans (hb6.mono HB5.out.size))
      clear hR6 hb6
      dsimp only
      go_wp2_with (fail)
      refine (chainBorder.calls k a0 a1 a2 a3 a4 a5 v6 u Ad cd x2 h2 _ HR6.out (Kd.C_below HT2.out HB6.out) HCT2.out HH2.out).mono ?_
      rintro e w7 ⟨v7, rfl, hR7, hb7⟩
      have HB7 := Aside0.mk (HB6.out.trans (hb7.mono HB6.out.size))
      obtain ⟨A7, c7, rfl, hc7, hR7⟩ := hR7
      have HR7 := Aside0.mk hR7
      have HC7 := Aside0.mk hc7
      clear hR7 hb7 hc7
      dsimp only
      go_wp2_with (fail)
      refine (verifyMatch.calls A7 c7 h2 A2 c2 r2 _ HR7.out HC7.out (Kd.C_below HR2.out HB7.out) HC2.out).mono ?_
      rintro e w8 ⟨v8, rfl, hV8, hb8⟩
      have HV8 := Aside0.mk hV8
      have HB8 := Aside0.mk (HB7.out.trans (hb8.mono HB7.out.size))
      clear hV8 hb8
      dsimp only
      go_wp2
      go_ret
      exact ⟨_, rfl, HV8.out, HB8.out⟩
    · rw [if_neg heq] at H2
      obtain rfl := Option.some.inj H2
      unfold vmat at hV5
      rw [if_neg heq] at hV5
      have hv5 : ∃ Ae ne ce A c, v5 = .iface 163 (.agg #[.slice Ae ne ce, .slice A h1.length c]) ∧ h1.length ≤ c ∧ Kd.C (Kd.int .u8) w5 A h1.length h1 := by
        rcases hV5 with ⟨h, _⟩ | ⟨h, _⟩ | ⟨_, h⟩
        · cases h
        · cases h
        · exact h
      obtain ⟨Ae, ne, ce, A9, c9, rfl, hc9, hC9⟩ := hv5
      have HC9 := Aside0.mk hc9
      have HR9 := Aside0.mk hC9
      clear H1 H2 hV5 heq hc9 hC9
      go_wp2
      go_ret
      exact ⟨_, rfl, Or.inr (Or.inr ⟨rfl, _, _, _, _, _, rfl, HC9.out, HR9.out⟩), HB5.out⟩
  · rw [if_neg hlen] at h
    obtain rfl := Option.some.inj h
    have g8 : ((l.length : Int) != 1 + (m - (z : Int)) + b) = true := bne_iff_ne.mpr (by omega)
    clear h hmz hlen
    go_enter Tryd.func75, Tryd.ntmps75
    go_wp2_with (fail)
    refine (proof_decompInclProof.calls k (s - 1) n _ b w HD.out).mono ?_
    rintro ex w1 ⟨rfl, ⟨d1, rfl⟩⟩
    dsimp only
    have HB1 := Aside0.mk (pw_below_drewN (Below.refl w.heap.size w) d1)
    generalize w.drewN d1 = W1 at HB1 ⊢
    go_wp2_with (fail)
    refine (bits_TrailingZeros64.calls _ _ W1 (HGL.out.below HB1.out) HZ.out).mono ?_
    rintro ex w2 ⟨rfl, ⟨d2, rfl⟩⟩
    dsimp only
    have HB := Aside0.mk (pw_below_drewN HB1.out d2)
    generalize W1.drewN d2 = W at HB ⊢
    have x1_ : W.cell? ad = some (.slice A0 (rd_L1 l (0 : Int)).length c0) := (HB.out.cell (World.block_lt_of_cell? w _ HX1.out)).trans HX1.out
    go_wp2_with (fail)
    refine (errNew3.calls _ W).mono ?_
    rintro ex w3 ⟨a, rfl, hb⟩
    have HB3 := Aside0.mk (HB.out.trans (hb.mono HB.out.size))
    clear hb
    dsimp only
    go_wp2
    go_ret
    exact ⟨_, rfl, Or.inr (Or.inl ⟨rfl, _, rfl⟩), HB3.out⟩
end Go.Proofs.YtielnphmcaecdaaDoor.PAll
namespace Go.Proofs.YtielnphmcaecdaaDoor.PAll
open Go.IntWalk Go.RowKit Go.Proofs.YtielnphmcaecdaaDoorW.PrintWords Go.Proofs.YtielnphmcaecdaaDoorW.PrintLast Go.Proofs.YtielnphmcaecdaaDoorW.PrintMore
set_option linter.unusedVariables false
set_option linter.unusedSimpArgs false
set_option maxHeartbeats 800000 in
set_option maxRecDepth 100000 in
theorem verifyCons.calls (k : Nat) (a0 a1 a2 a3 a4 a5 s n : Int) (A : Option Addr) (c : Nat) (l : List (List Int)) (A1 : Option Addr) (c1 : Nat) (r1 : List Int) (A2 : Option Addr) (c2 : Nat) (r2 : List Int) (o : Int × List Int) (w : World) (hG : Glob w)
    (hr : Kd.C (Kd.slice 5 (Kd.int .u8)) w A l.length l) (hc : l.length ≤ c) (hr1 : Kd.C (Kd.int .u8) w A1 r1.length r1) (hc1 : r1.length ≤ c1) (hr2 : Kd.C (Kd.int .u8) w A2 r2.length r2) (hc2 : r2.length ≤ c2)
    (hs : 1 ≤ s) (hn : s ≤ n) (hn2 : n < 18446744073709551616) (h : verC k (impl_toy_HashChildren.f k a0 a1 a2 a3 a4 a5) s n l r1 r2 = some o) :
    Calls Tryd.prog 75 #[.iface 82 (.agg #[.int .i64 a0, .int .i64 a1, .int .i64 a2, .int .u64 a3, .int .u64 a4, .int .u64 a5]), .int .u64 s, .int .u64 n, .slice A l.length c, .slice A1 r1.length c1, .slice A2 r2.length c2] w fun e w' => ∃ x, e = .returned x ∧ OutV w' o x ∧ Below w.heap.size w w' := by
  unfold verC at h
  by_cases h1 : s = n
  · subst h1
    rw [if_pos rfl] at h
    have g1 : decide (s < s) = false := decide_eq_false (by omega)
    have g2 : (s == s) = true := beq_iff_eq.mpr rfl
    by_cases h2 : l.length = 0
    · rw [if_pos h2] at h
      obtain rfl := Option.some.inj h
      have HR1 := Aside0.mk hr1
      have HC1 := Aside0.mk hc1
      have HR2 := Aside0.mk hr2
      have HC2 := Aside0.mk hc2
      have g4 : decide ((l.length : Int) > 0) = false := decide_eq_false (by omega)
      have g5 : decide (0 < (l.length : Int)) = false := decide_eq_false (by omega)
      have g6 : decide (0 < l.length) = false := decide_eq_false (by omega)
      clear hr hc hr1 hc1 hr2 hc2 h h2
      go_enter Tryd.func75, Tryd.ntmps75
      go_wp2_with (fail)
      refine (verifyMatch.calls A1 c1 r1 A2 c2 r2 w HR1.out HC1.out HR2.out HC2.out).mono ?_
      rintro e w8 ⟨v8, rfl, hV8, hb8⟩
      have HV8 := Aside0.mk hV8
      have HB8 := Aside0.mk hb8
      clear hV8 hb8
      dsimp only
      go_wp2
      go_ret
      exact ⟨_, rfl, HV8.out, HB8.out⟩
    · rw [if_neg h2] at h
      obtain rfl := Option.some.inj h
      have g4 : decide ((l.length : Int) > 0) = true := decide_eq_true (by omega)
      have g5 : decide (0 < (l.length : Int)) = true := decide_eq_true (by omega)
      have g6 : decide (0 < l.length) = true := decide_eq_true (by omega)
      clear hr hc hr1 hc1 hr2 hc2 h h2
      go_enter Tryd.func75, Tryd.ntmps75
      go_wp2_with (fail)
      refine (errNew3.calls _ w).mono ?_
      rintro ex w3 ⟨a, rfl, hb⟩
      have HB3 := Aside0.mk hb
      clear hb
      dsimp only
      go_wp2
      go_ret
      exact ⟨_, rfl, Or.inr (Or.inl ⟨rfl, _, rfl⟩), HB3.out⟩
  · rw [if_neg h1] at h
    by_cases h2 : l.length = 0
    · rw [if_pos h2] at h
      obtain rfl := Option.some.inj h
      have g1 : decide (n < s) = false := decide_eq_false (by omega)
      have g2 : (s == n) = false := beq_eq_false_iff_ne.mpr (by omega)
      have g3 : (s == 0) = false := beq_eq_false_iff_ne.mpr (by omega)
      have g4 : ((l.length : Int) == 0) = true := beq_iff_eq.mpr (by omega)
      clear hr hc hr1 hc1 hr2 hc2 h h2
      go_enter Tryd.func75, Tryd.ntmps75
      go_wp2_with (fail)
      refine (errNew3.calls _ w).mono ?_
      rintro ex w3 ⟨a, rfl, hb⟩
      have HB3 := Aside0.mk hb
      clear hb
      dsimp only
      go_wp2
      go_ret
      exact ⟨_, rfl, Or.inr (Or.inl ⟨rfl, _, rfl⟩), HB3.out⟩
    · rw [if_neg h2] at h
      obtain ⟨⟨m, b⟩, hd, h⟩ := Option.bind_eq_some_iff.mp h
      obtain ⟨z, hz, h⟩ := Option.bind_eq_some_iff.mp h
      dsimp only at h
      by_cases h3 : 0 ≤ z ∧ z ≤ 63 ∧ z ≤ m ∧ 0 ≤ b ∧ m + b < 1000000
      case neg => rw [if_neg h3] at h; cases h
      rw [if_pos h3] at h
      obtain ⟨z, rfl⟩ : ∃ y : Nat, z = (y : Int) := ⟨z.toNat, by omega⟩
      obtain ⟨i, hi⟩ : ∃ y : Nat, m - (z : Int) = (y : Int) := ⟨(m - z).toNat, by omega⟩
      rw [Int.toNat_natCast, hi, Int.toNat_natCast] at h
      by_cases h4 : s = 2 ^ z
      · rw [if_pos h4] at h
        exact verifyConsP.calls k a0 a1 a2 a3 a4 a5 s n A c l A1 c1 r1 A2 c2 r2 o w hG hr hc hr1 hc1 hr2 hc2 hs (by omega) hn2 (by omega) m b z i hi hd hz (by omega) (by omega) (by omega) h4 h
      · rw [if_neg h4] at h
        exact verifyConsN.calls k a0 a1 a2 a3 a4 a5 s n A c l A1 c1 r1 A2 c2 r2 o w hG hr hc hr1 hc1 hr2 hc2 hs (by omega) hn2 (by omega) m b z i hi hd hz (by omega) (by omega) (by omega) h4 h
end Go.Proofs.YtielnphmcaecdaaDoor.PAll
namespace Go.Proofs.YtielnphmcaecdaaDoor.PAll
open Go.IntWalk Go.RowKit Go.Proofs.YtielnphmcaecdaaDoorW.PrintWords Go.Proofs.YtielnphmcaecdaaDoorW.PrintLast Go.Proofs.YtielnphmcaecdaaDoorW.PrintMore
set_option linter.unusedVariables false
set_option linter.unusedSimpArgs false
theorem load_none (W : World) (ad : Addr) : (loadCells ad 0).run Tryd.prog W = .ok #[] W := by
  simp [loadCells, loadCellsFrom]
theorem append_same (W : World) (A : Option Addr) (m c : Nat) (ad : Addr) (ty : TypeId) (hm : 0 < m) (hl : m ≤ 140737488355328) :
    (Builtin.append_ #[27, 27] ty #[.slice (some ad) 0 0, .slice A m c]).run Tryd.prog W = (Builtin.append_ #[27, 27] ty #[.slice none 0 0, .slice A m c]).run Tryd.prog W := by
  obtain ⟨i0, hi, _, hsz, hb⟩ := info_parts info5
  have hno : ¬ m ≤ 0 := by omega
  have hn0 : ¬ m = 0 := by omega
  have hbig : ¬ (9223372036854775807 : Int) < (m : Int) := by omega
  have hcap : Builtin.nextslicecap m 0 = m := by unfold Builtin.nextslicecap; rw [if_pos (by omega)]
  have hb2 : ¬ 281474976710656 < m := by omega
  simp [Builtin.append_, run_underlying Tryd.underlying27, sizeOf, typeInfo, hi, hsz, hb, Builtin.lenOf, Builtin.firstCells, hno, hn0, hbig, hcap, hb2, load_none]
theorem append_text (W : World) (A : Option Addr) (m c : Nat) (ad : Addr) (ty : TypeId) (ys : List Int) (hC : Kd.C (Kd.int .u8) W A m ys) (hl : m ≤ 140737488355328) :
    ∃ v1 w1, (Builtin.append_ #[27, 27] ty #[.slice (some ad) 0 0, .slice A m c]).run Tryd.prog W = .ok v1 w1 ∧ TxC w1 v1 ys ∧ Below W.heap.size W w1 := by
  obtain ⟨i0, hi, hz0, hsz, hb⟩ := info_parts info5
  rcases Nat.eq_zero_or_pos m with h0 | h0
  · subst h0
    obtain rfl : ys = [] := List.eq_nil_of_length_eq_zero hC.1
    refine ⟨.slice (some ad) 0 0, W, ?_, ⟨some ad, 0, rfl, Nat.le_refl _, rfl, by simp, fun h => absurd h (by simp)⟩, Below.refl _ _⟩
    cases A <;> simp [Builtin.append_, run_underlying Tryd.underlying27, sizeOf, typeInfo, hi, hsz, hb, Builtin.lenOf, Builtin.firstCells, load_none, storeCells]
  · rw [append_same W A m c ad ty h0 hl]
    obtain ⟨ad2, rfl, _⟩ := hC.2.2 h0
    obtain ⟨news, hnr, hnc⟩ := ReadsRow.inner_ hC
    have hlen : news.length = m * 1 := by rw [hnr.1, hC.1]; rfl
    have hone : ∀ u ∈ news, u.oneCell' = true := by
      intro u hu
      obtain ⟨q, hq, rfl⟩ := List.mem_iff_getElem.1 hu
      have hql : q < ys.length := by rw [hC.1]; omega
      have hc := hnr.2 q _ (List.getElem?_eq_getElem hql)
      refine (Kd.int .u8).K_one hc _ ?_
      rw [List.mem_iff_getElem?]
      refine ⟨0, ?_⟩
      rw [List.getElem?_take, if_pos (by decide), List.getElem?_drop]
      show news[q * 1 + 0]? = _
      rw [Nat.mul_one, Nat.add_zero, List.getElem?_eq_getElem hq]
    obtain ⟨v1, w1, hrun, h2, hg, _, hat⟩ := run_append_own_at (P := Tryd.prog) (w := W) W.heap.size 27 ty 5 i0 (.int .u8 0) 1 1 Tryd.underlying27 hi hz0 hsz hb rfl (by decide) (.slice none 0 0) 0 [] ⟨rfl, .inl ⟨rfl, rfl⟩⟩ ad2 m c news hlen hnc hone (by simp only [maxLen]; omega) (by omega) (Nat.le_refl _)
    refine ⟨v1, w1, hrun, ?_, ?_⟩
    · refine TxC.of_R (B := W.heap.size) (ok := fun _ => True) ⟨fun _ _ => trivial, [] ++ news, ?_, ?_⟩
      · have hy : ys.length = 0 + m := by rw [hC.1, Nat.zero_add]
        rw [hy]; exact h2
      · rw [List.nil_append]; exact hnr
    · exact (Below.refl _ _).grown hg (Nat.le_refl _) (fun b hb => by cases hb)
theorem append_text_step {ops : Array Oper} {o : Oper} {a : Act} {Q : Exit → Act → World → Prop} {Kc : Act → World → Prop} {W : World} (hw : Region.wanted o (yielded ops a.tmps) = true) (s x : Operand)
    (ho : o.op = .call { callee := .builtin .append, args := #[s, x], argTypes := #[27, 27] }) (ad : Addr) (A : Option Addr) (m c : Nat) (ys : List Int) (hs : a.eval s = .slice (some ad) 0 0) (hx : a.eval x = .slice A m c)
    (hC : Kd.C (Kd.int .u8) W A m ys) (hl : m ≤ 140737488355328) (h : ∀ v1 w1, TxC w1 v1 ys → Below W.heap.size W w1 → Kc (a.put o.dst v1) w1) :
    if Region.wanted o (yielded ops a.tmps) = true then Oper.wp Tryd.prog o a W Kc Q else Kc (a.put o.dst undef) W := by
  obtain ⟨v1, w1, hr1, h1, h2⟩ := append_text W A m c ad o.type ys hC hl
  rw [if_pos hw]
  unfold Oper.wp execOp
  simp only [ho, resolve, invoke, builtin, Sem.run_bind, Sem.run_pure, Result.andThen_ok, List.map_toArray, List.map_cons, List.map_nil, hs, hx, hr1]
  exact h v1 w1 h1 h2
end Go.Proofs.YtielnphmcaecdaaDoor.PAll
namespace Go.Proofs.YtielnphmcaecdaaDoor.PAll
open Go.IntWalk Go.RowKit Go.Proofs.YtielnphmcaecdaaDoorW.PrintWords Go.Proofs.YtielnphmcaecdaaDoorW.PrintLast Go.Proofs.YtielnphmcaecdaaDoorW.PrintMore
set_option linter.unusedVariables false
set_option linter.unusedSimpArgs false
theorem up_mono {H H' : List Int → List Int → Option (List Int)} (h : ∀ a b, LeO (H a b) (H' a b)) (idx : Int) : ∀ l i s, LeO (up_ H idx l i s) (up_ H' idx l i s)
  | [], _, _ => LeO.refl _
  | x :: xs, i, s => by
    unfold up_
    refine LeO.bind ?_ (fun t => up_mono h idx xs (i + 1) t)
    split
    · exact h _ _
    · exact h _ _
theorem upR_mono {H H' : List Int → List Int → Option (List Int)} (h : ∀ a b, LeO (H a b) (H' a b)) (idx : Int) : ∀ l i s, LeO (upR_ H idx l i s) (upR_ H' idx l i s)
  | [], _, _ => LeO.refl _
  | x :: xs, i, s => by
    unfold upR_
    refine LeO.bind ?_ (fun t => upR_mono h idx xs (i + 1) t)
    split
    · exact h _ _
    · exact LeO.refl _
theorem upBv_mono {H H' : List Int → List Int → Option (List Int)} (h : ∀ a b, LeO (H a b) (H' a b)) : ∀ l s, LeO (upB_ H l s) (upB_ H' l s)
  | [], _ => LeO.refl _
  | x :: xs, s => LeO.bind (h x s) (fun t => upBv_mono h xs t)
end Go.Proofs.YtielnphmcaecdaaDoor.PAll
namespace Go.Proofs.YtielnphmcaecdaaDoor.PAll
open Go.IntWalk Go.RowKit Go.Proofs.YtielnphmcaecdaaDoorW.PrintWords Go.Proofs.YtielnphmcaecdaaDoorW.PrintLast Go.Proofs.YtielnphmcaecdaaDoorW.PrintMore
set_option linter.unusedVariables false
set_option linter.unusedSimpArgs false
theorem verT_mono {H H' : List Int → List Int → Option (List Int)} (h : ∀ a b, LeO (H a b) (H' a b)) (m : Int) (i : Nat) (q : List Int) (l : List (List Int)) (r1 r2 : List Int) : LeO (verT H m i q l r1 r2) (verT H' m i q l r1 r2) := by
  unfold verT
  exact LeO.bind (upR_mono h _ _ _ _) (fun t => LeO.bind (upBv_mono h _ _) (fun h1 => LeO.ite (LeO.bind (up_mono h _ _ _ _) (fun u => LeO.bind (upBv_mono h _ _) (fun h2 => LeO.refl _))) (LeO.refl _)))
theorem verC_mono {k : Nat} {H H' : List Int → List Int → Option (List Int)} (h : ∀ a b, LeO (H a b) (H' a b)) (s n : Int) (l : List (List Int)) (r1 r2 : List Int) : LeO (verC k H s n l r1 r2) (verC (k + 1) H' s n l r1 r2) := by
  unfold verC
  refine LeO.ite (LeO.refl _) (LeO.ite (LeO.refl _) (LeO.bind (proof_decompInclProof.mono _ _ _) (fun p => LeO.bind (LeO.refl _) (fun z => LeO.ite (LeO.ite (LeO.ite (verT_mono h _ _ _ _ _ _) (LeO.refl _)) (LeO.ite (verT_mono h _ _ _ _ _ _) (LeO.refl _))) (LeO.refl _)))))
def impl_VerifyConsistency.f (k : Nat) (a0 a1 a2 a3 a4 a5 x1 x2 : Int) (l : List (List Int)) (r1 r2 : List Int) : Option (Int × List Int) :=
  if r1.length < 140737488355328 ∧ r2.length < 140737488355328 then (impl_texts.f k l).bind fun x => if 1 ≤ x1 ∧ x1 ≤ x2 ∧ x2 < 18446744073709551616 then (verC k (impl_toy_HashChildren.f k a0 a1 a2 a3 a4 a5) x1 x2 x r1 r2).bind fun o => if o.2.length < 140737488355328 then some o else none else none else none
theorem impl_VerifyConsistency.mono : ∀ a0 a1 a2 a3 a4 a5 x1 x2 l r1 r2 k, LeO (impl_VerifyConsistency.f k a0 a1 a2 a3 a4 a5 x1 x2 l r1 r2) (impl_VerifyConsistency.f (k + 1) a0 a1 a2 a3 a4 a5 x1 x2 l r1 r2) := by
  intro a0 a1 a2 a3 a4 a5 x1 x2 l r1 r2 k
  unfold impl_VerifyConsistency.f
  exact LeO.ite (LeO.bind (impl_texts.mono _ _) (fun x => LeO.ite (LeO.bind (verC_mono (fun a b => impl_toy_HashChildren.mono _ _ _ _ _ _ _ _ _) _ _ _ _ _) (fun o => LeO.refl _)) (LeO.refl _))) (LeO.refl _)
set_option maxHeartbeats 4000000 in
set_option maxRecDepth 100000 in
theorem impl_VerifyConsistency.calls (k : Nat) (a0 a1 a2 a3 a4 a5 x1 x2 : Int) (A : Option Addr) (c : Nat) (l : List (List Int)) (A1 : Option Addr) (c1 : Nat) (r1 : List Int) (A2 : Option Addr) (c2 : Nat) (r2 : List Int) (q1 : Int) (q2 : List Int) (w : World) (hG : Glob w)
    (hr : Kd.C (Kd.slice 5 (Kd.int .u8)) w A l.length l) (hc : l.length ≤ c) (hr1 : Kd.C (Kd.int .u8) w A1 r1.length r1) (hc1 : r1.length ≤ c1) (hr2 : Kd.C (Kd.int .u8) w A2 r2.length r2) (hc2 : r2.length ≤ c2)
    (h : impl_VerifyConsistency.f k a0 a1 a2 a3 a4 a5 x1 x2 l r1 r2 = some (q1, q2)) :
    Calls Tryd.prog 36 #[.agg #[.int .i64 a0, .int .i64 a1, .int .i64 a2, .int .u64 a3, .int .u64 a4, .int .u64 a5], .int .u64 x1, .int .u64 x2, .slice A l.length c, .slice A1 r1.length c1, .slice A2 r2.length c2] w fun e w' => ∃ v0_, e = .returned (.tuple #[.int .i64 q1, v0_]) ∧ Kd.R (Kd.int .u8) 5 w' w.heap.size (fun _ => True) v0_ q2 ∧ Below w.heap.size w w' := by
  unfold impl_VerifyConsistency.f at h
  by_cases hl : r1.length < 140737488355328 ∧ r2.length < 140737488355328
  case neg => rw [if_neg hl] at h; cases h
  rw [if_pos hl] at h
  obtain ⟨x, hx, h⟩ := Option.bind_eq_some_iff.mp h
  by_cases hs : 1 ≤ x1 ∧ x1 ≤ x2 ∧ x2 < 18446744073709551616
  case neg => rw [if_neg hs] at h; cases h
  rw [if_pos hs] at h
  obtain ⟨o, ho, h⟩ := Option.bind_eq_some_iff.mp h
  by_cases hol : o.2.length < 140737488355328
  case neg => rw [if_neg hol] at h; cases h
  rw [if_pos hol] at h
  obtain rfl := Option.some.inj h
  have HR0 := Aside0.mk hr
  have HC0 := Aside0.mk hc
  have HR1 := Aside0.mk hr1
  have HC1 := Aside0.mk hc1
  have HR2 := Aside0.mk hr2
  have HC2 := Aside0.mk hc2
  have HXX := Aside0.mk hx
  have HS := Aside0.mk hs
  have HO := Aside0.mk ho
  have HOL := Aside0.mk hol
  have HL1 := Aside0.mk hl.1
  have HL2 := Aside0.mk hl.2
  have HG := Aside0.mk hG
  clear hr hc hr1 hc1 hr2 hc2 hx hs ho hol hl h hG
  go_enter Tryd.func36, Tryd.ntmps36
  go_wp2
  have bk := blk_new w (Obj.cells #[.int .i64 a0, .int .i64 a1, .int .i64 a2, .int .u64 a3, .int .u64 a4, .int .u64 a5] 24)
  have HBw := Aside0.mk (below_alloc (Below.refl w.heap.size w) (Obj.cells #[.int .i64 a0, .int .i64 a1, .int .i64 a2, .int .u64 a3, .int .u64 a4, .int .u64 a5] 24))
  generalize w.alloc (Obj.cells #[.int .i64 a0, .int .i64 a1, .int .i64 a2, .int .u64 a3, .int .u64 a4, .int .u64 a5] 24) = W0 at bk HBw ⊢
  have y0 : W0.cell? ⟨w.heap.size, 0, none⟩ = some (.int .i64 a0) := blk_cell bk 0
  have y1 : W0.cell? ⟨w.heap.size, 1, none⟩ = some (.int .i64 a1) := blk_cell bk 1
  have y2 : W0.cell? ⟨w.heap.size, 2, none⟩ = some (.int .i64 a2) := blk_cell bk 2
  have y3 : W0.cell? ⟨w.heap.size, 3, none⟩ = some (.int .u64 a3) := blk_cell bk 3
  have y4 : W0.cell? ⟨w.heap.size, 4, none⟩ = some (.int .u64 a4) := blk_cell bk 4
  have y5 : W0.cell? ⟨w.heap.size, 5, none⟩ = some (.int .u64 a5) := blk_cell bk 5
  have HLT := Aside0.mk (show w.heap.size < W0.heap.size from (Array.getElem?_eq_some_iff.1 bk).1)
  have HBn := Aside0.mk (Below.refl W0.heap.size W0)
  have HL := Aside0.mk (Below.refl W0.heap.size W0)
  replace HG := Aside0.mk (HG.out.below HBw.out)
  clear bk
  go_region_held_law (fun w' => w'.cell? ⟨w.heap.size, 0, none⟩ = some (.int .i64 a0) ∧ w'.cell? ⟨w.heap.size, 1, none⟩ = some (.int .i64 a1) ∧ w'.cell? ⟨w.heap.size, 2, none⟩ = some (.int .i64 a2) ∧ w'.cell? ⟨w.heap.size, 3, none⟩ = some (.int .u64 a3) ∧ w'.cell? ⟨w.heap.size, 4, none⟩ = some (.int .u64 a4) ∧ w'.cell? ⟨w.heap.size, 5, none⟩ = some (.int .u64 a5)) (first | exact ⟨v0_, v1_, v2_, v3_, v4_, v5_⟩ | exact ⟨y0, y1, y2, y3, y4, y5⟩ | go_keep) (first
          | (refine append_text_step ?hw (.tmp 21) (.tmp 22) rfl _ A1 r1.length c1 r1 rfl rfl ?aC ?aL ?_
             (case hw => simp [Region.wanted])
             (case aC => exact Kd.C_below HR1.out (by repeat (first | exact HBw.out | apply below_alloc | apply Below.drew | apply pw_below_drewN | apply below_drew)))
             (case aL => exact Nat.le_of_lt HL1.out)
             intro u1 wq hT hB
             have HT1 := Aside0.mk hT
             have hmv := below_step (by repeat (first | exact HL.out | apply below_alloc | apply Below.drew | apply pw_below_drewN | apply below_drew)) hB
             have HBn := Aside0.mk (HBn.out.trans (hmv.mono HBn.out.size))
             have HBw := Aside0.mk (HBw.out.trans (hmv.mono HBw.out.size))
             have v0_ := (HBn.out.cell (p := ⟨w.heap.size, 0, none⟩) HLT.out).trans y0
             have v1_ := (HBn.out.cell (p := ⟨w.heap.size, 1, none⟩) HLT.out).trans y1
             have v2_ := (HBn.out.cell (p := ⟨w.heap.size, 2, none⟩) HLT.out).trans y2
             have v3_ := (HBn.out.cell (p := ⟨w.heap.size, 3, none⟩) HLT.out).trans y3
             have v4_ := (HBn.out.cell (p := ⟨w.heap.size, 4, none⟩) HLT.out).trans y4
             have v5_ := (HBn.out.cell (p := ⟨w.heap.size, 5, none⟩) HLT.out).trans y5
             try have HX := Aside0.mk (Kd.C_below HX.out hmv)
             try have HT2 := Aside0.mk (HT2.out.below hmv)
             have HG := Aside0.mk (HG.out.below hmv)
             have HL := Aside0.mk (Below.refl wq.heap.size wq)
             clear hT hB hmv)
          | (refine append_text_step ?hw (.tmp 24) (.tmp 25) rfl _ A2 r2.length c2 r2 rfl rfl ?aC ?aL ?_
             (case hw => simp [Region.wanted])
             (case aC => exact Kd.C_below HR2.out (by repeat (first | exact HBw.out | apply below_alloc | apply Below.drew | apply pw_below_drewN | apply below_drew)))
             (case aL => exact Nat.le_of_lt HL2.out)
             intro u2 wq hT hB
             have HT2 := Aside0.mk hT
             have hmv := below_step (by repeat (first | exact HL.out | apply below_alloc | apply Below.drew | apply pw_below_drewN | apply below_drew)) hB
             have HBn := Aside0.mk (HBn.out.trans (hmv.mono HBn.out.size))
             have HBw := Aside0.mk (HBw.out.trans (hmv.mono HBw.out.size))
             have v0_ := (HBn.out.cell (p := ⟨w.heap.size, 0, none⟩) HLT.out).trans y0
             have v1_ := (HBn.out.cell (p := ⟨w.heap.size, 1, none⟩) HLT.out).trans y1
             have v2_ := (HBn.out.cell (p := ⟨w.heap.size, 2, none⟩) HLT.out).trans y2
             have v3_ := (HBn.out.cell (p := ⟨w.heap.size, 3, none⟩) HLT.out).trans y3
             have v4_ := (HBn.out.cell (p := ⟨w.heap.size, 4, none⟩) HLT.out).trans y4
             have v5_ := (HBn.out.cell (p := ⟨w.heap.size, 5, none⟩) HLT.out).trans y5
             try have HX := Aside0.mk (Kd.C_below HX.out hmv)
             try have HT1 := Aside0.mk (HT1.out.below hmv)
             have HG := Aside0.mk (HG.out.below hmv)
             have HL := Aside0.mk (Below.refl wq.heap.size wq)
             clear hT hB hmv)
          | (go_simp
             go_at_call 45
             refine (impl_texts.calls k A c l x _ ?s1 HC0.out HXX.out).mono ?_
             (case s1 => exact Kd.C_below HR0.out (by repeat (first | exact HBw.out | apply below_alloc | apply Below.drew | apply pw_below_drewN | apply below_drew)))
             rintro e wq ⟨v3, rfl, hS3, hB⟩
             obtain ⟨Ax, cx, rfl⟩ := Kd.S_slice hS3
             obtain ⟨_, hcx, hCx⟩ := Kd.S_reads' hS3
             have HCX := Aside0.mk hcx
             have HX := Aside0.mk hCx
             clear hS3 hcx hCx
             have hmv := below_step (by repeat (first | exact HL.out | apply below_alloc | apply Below.drew | apply pw_below_drewN | apply below_drew)) hB
             have HBn := Aside0.mk (HBn.out.trans (hmv.mono HBn.out.size))
             have HBw := Aside0.mk (HBw.out.trans (hmv.mono HBw.out.size))
             have v0_ := (HBn.out.cell (p := ⟨w.heap.size, 0, none⟩) HLT.out).trans y0
             have v1_ := (HBn.out.cell (p := ⟨w.heap.size, 1, none⟩) HLT.out).trans y1
             have v2_ := (HBn.out.cell (p := ⟨w.heap.size, 2, none⟩) HLT.out).trans y2
             have v3_ := (HBn.out.cell (p := ⟨w.heap.size, 3, none⟩) HLT.out).trans y3
             have v4_ := (HBn.out.cell (p := ⟨w.heap.size, 4, none⟩) HLT.out).trans y4
             have v5_ := (HBn.out.cell (p := ⟨w.heap.size, 5, none⟩) HLT.out).trans y5
             try have HT1 := Aside0.mk (HT1.out.below hmv)
             try have HT2 := Aside0.mk (HT2.out.below hmv)
             have HG := Aside0.mk (HG.out.below hmv)
             have HL := Aside0.mk (Below.refl wq.heap.size wq)
             clear hB hmv)
          | (go_simp
             go_at_call 75
             obtain ⟨B1, d1, e1, hd1, hD1⟩ := HT1.out
             obtain ⟨B2, d2, e2, hd2, hD2⟩ := HT2.out
             subst e1 e2
             refine (verifyCons.calls k a0 a1 a2 a3 a4 a5 x1 x2 Ax cx x B1 d1 r1 B2 d2 r2 (q1, q2) _ ?s0 ?s1 HCX.out ?s2 hd1 ?s3 hd2 HS.out.1 HS.out.2.1 HS.out.2.2 HO.out).mono ?_
             (case s0 => exact HG.out.below (by repeat (first | exact HL.out | apply below_alloc | apply Below.drew | apply pw_below_drewN | apply below_drew)))
             (case s1 => exact Kd.C_below HX.out (by repeat (first | exact HL.out | apply below_alloc | apply Below.drew | apply pw_below_drewN | apply below_drew)))
             (case s2 => exact Kd.C_below hD1 (by repeat (first | exact HL.out | apply below_alloc | apply Below.drew | apply pw_below_drewN | apply below_drew)))
             (case s3 => exact Kd.C_below hD2 (by repeat (first | exact HL.out | apply below_alloc | apply Below.drew | apply pw_below_drewN | apply below_drew)))
             rintro e wq ⟨v4, rfl, hV4, hB⟩
             have HV4 := Aside0.mk hV4
             clear hV4 hd1 hD1 hd2 hD2 HT1 HT2
             have hmv := below_step (by repeat (first | exact HL.out | apply below_alloc | apply Below.drew | apply pw_below_drewN | apply below_drew)) hB
             have HBn := Aside0.mk (HBn.out.trans (hmv.mono HBn.out.size))
             have HBw := Aside0.mk (HBw.out.trans (hmv.mono HBw.out.size))
             have v0_ := (HBn.out.cell (p := ⟨w.heap.size, 0, none⟩) HLT.out).trans y0
             have v1_ := (HBn.out.cell (p := ⟨w.heap.size, 1, none⟩) HLT.out).trans y1
             have v2_ := (HBn.out.cell (p := ⟨w.heap.size, 2, none⟩) HLT.out).trans y2
             have v3_ := (HBn.out.cell (p := ⟨w.heap.size, 3, none⟩) HLT.out).trans y3
             have v4_ := (HBn.out.cell (p := ⟨w.heap.size, 4, none⟩) HLT.out).trans y4
             have v5_ := (HBn.out.cell (p := ⟨w.heap.size, 5, none⟩) HLT.out).trans y5
             try have HX := Aside0.mk (Kd.C_below HX.out hmv)
             try have HT1 := Aside0.mk (HT1.out.below hmv)
             try have HT2 := Aside0.mk (HT2.out.below hmv)
             have HG := Aside0.mk (HG.out.below hmv)
             have HL := Aside0.mk (Below.refl wq.heap.size wq)
             clear hB hmv)
          | (go_simp
             go_at_call 74
             refine (verdict.calls (q1, q2) _ _ ?s0 HOL.out).mono ?_
             (case s0 => exact HV4.out)
             rintro e wq ⟨v5, rfl, hR5, hB⟩
             have HR5 := Aside0.mk (Kd.R_lower hR5 HBw.out.size)
             have hmv := below_step (by repeat (first | exact HL.out | apply below_alloc | apply Below.drew | apply pw_below_drewN | apply below_drew)) hB
             have HBn := Aside0.mk (HBn.out.trans (hmv.mono HBn.out.size))
             have HBw := Aside0.mk (HBw.out.trans (hmv.mono HBw.out.size))
             have v0_ := (HBn.out.cell (p := ⟨w.heap.size, 0, none⟩) HLT.out).trans y0
             have v1_ := (HBn.out.cell (p := ⟨w.heap.size, 1, none⟩) HLT.out).trans y1
             have v2_ := (HBn.out.cell (p := ⟨w.heap.size, 2, none⟩) HLT.out).trans y2
             have v3_ := (HBn.out.cell (p := ⟨w.heap.size, 3, none⟩) HLT.out).trans y3
             have v4_ := (HBn.out.cell (p := ⟨w.heap.size, 4, none⟩) HLT.out).trans y4
             have v5_ := (HBn.out.cell (p := ⟨w.heap.size, 5, none⟩) HLT.out).trans y5
             try have HX := Aside0.mk (Kd.C_below HX.out hmv)
             try have HT1 := Aside0.mk (HT1.out.below hmv)
             try have HT2 := Aside0.mk (HT2.out.below hmv)
             have HG := Aside0.mk (HG.out.below hmv)
             clear hR5 hB hmv))
  all_goals first
    | (go_step; go_wp2; go_ret2; exact ⟨_, rfl, HR5.out, HBw.out⟩)
    | (go_step; go_wp2; refine ⟨rfl, _, results_tmp2 (fn := Tryd.f36) rfl _ _ _, ?_⟩; exact ⟨_, rfl, HR5.out, HBw.out⟩)
    | (go_wp2; go_ret2; exact ⟨_, rfl, HR5.out, HBw.out⟩)
    | (go_wp2; refine ⟨rfl, _, results_tmp2 (fn := Tryd.f36) rfl _ _ _, ?_⟩; exact ⟨_, rfl, HR5.out, HBw.out⟩)
end Go.Proofs.YtielnphmcaecdaaDoor.PAll
