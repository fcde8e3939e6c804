-- Written by a program of this session (wip/tools)
import Derived.Test.YtielnphmcaecdaaDoorQCHPAllx6
import Derived.Test.YtielnphmcaecdaaDoorQCHExtRehash
import Derived.Deep.RegionHeldLaw
namespace Go.Proofs.YtielnphmcaecdaaDoor.PAll
open Go.IntWalk Go.RowKit Go.Proofs.YtielnphmcaecdaaDoorW.PrintWords Go.Proofs.YtielnphmcaecdaaDoorW.PrintLast Go.Proofs.YtielnphmcaecdaaDoorW.PrintMore
set_option linter.unusedVariables false
set_option linter.unusedSimpArgs false
def TxF (ok : Nat → Prop) (w : World) (s : SH) (b : List Int) : Prop := s.2.1 = b.length ∧ b.length ≤ s.2.2 ∧ Kd.F (Kd.int .u8) w ok s.1 b.length b
theorem TxF.below {ok : Nat → Prop} {w w' : World} {s : SH} {b : List Int} (h : TxF ok w s b) (hb : Below w.heap.size w w') : TxF ok w' s b := ⟨h.1, h.2.1, Kd.F_below h.2.2 hb⟩
theorem TxF.mono {ok ok' : Nat → Prop} {w : World} {s : SH} {b : List Int} (h : TxF ok w s b) (hk : ∀ k, ok k → ok' k) : TxF ok' w s b := ⟨h.1, h.2.1, Kd.F_mono h.2.2 hk⟩
theorem TxF.step {ok : Nat → Prop} {w w' : World} {s : SH} {b : List Int} (h : TxF ok w s b) (hm : ∀ k, ok k → k < w.heap.size → w'.heap[k]? = w.heap[k]?) : TxF ok w' s b := ⟨h.1, h.2.1, Kd.F_step h.2.2 hm⟩
theorem TxF.at {ok : Nat → Prop} {w : World} {A : Option Addr} {n c : Nat} {b : List Int} (h : TxF ok w (A, n, c) b) : n = b.length ∧ b.length ≤ c ∧ Kd.C (Kd.int .u8) w A b.length b := ⟨h.1, h.2.1, Kd.F_now h.2.2⟩
theorem TxF.of_R {ok okr : Nat → Prop} {B : Nat} {w : World} {s : SH} {b : List Int} (h : Kd.R (Kd.int .u8) 5 w B okr (shE s) b) (hk : ∀ k, B ≤ k → ok k) : TxF ok w s b := by
  obtain ⟨A, n, c⟩ := s
  obtain ⟨h1, h2, h3⟩ := Kd.R_reads' h
  have h1 : n = b.length := h1
  subst h1
  exact ⟨rfl, h2, Kd.F_mono (Kd.R_F (Kd.R_tight rfl h)) (fun k e => hk k (Kd.R_base h k e.symm))⟩
theorem V_heads {w : World} {base : Nat} {ok : Nat → Prop} {A : Option Addr} {n c : Nat} {xs : List (List Int)} (h : Kd.V (Kd.slice 5 (Kd.int .u8)) 27 w base ok (.slice A n c) xs) :
    ∃ ss : List SH, ss.length = xs.length ∧ kSH.C w A xs.length ss ∧ ∀ (j : Nat) (s : SH) (b : List Int), ss[j]? = some s → xs[j]? = some b → TxF ok w s b := by
  obtain ⟨rfl, hc, hF⟩ := Kd.V_at h
  have hC := Kd.F_now hF
  have hat : ∀ j : Nat, ∃ s : SH, j < xs.length → (∃ ad, A = some ad ∧ w.cell? (ad.add j) = some (shE s)) ∧ TxF ok w s (xs.getD j []) := by
    intro j
    by_cases hj : j < xs.length
    · obtain ⟨ad, cs, e1, e2, e3, e4, _⟩ := Kd.F_get hF ([] : List Int) (j : Int) (by omega) (by omega)
      obtain ⟨A', c', rfl, hl, hf⟩ := Kd.FK_slice_open e3
      rw [Int.toNat_natCast] at e4 hl hf
      refine ⟨(A', (xs.getD j []).length, c'), fun _ => ⟨⟨ad, e1, ?_⟩, rfl, hl, hf⟩⟩
      have := e4 0 _ rfl
      rw [show (Kd.slice 5 (Kd.int .u8)).sz = 1 from rfl, Nat.mul_one, Nat.add_zero] at this
      exact this
    · exact ⟨(none, 0, 0), fun h => absurd h hj⟩
  obtain ⟨f, hf⟩ := Classical.axiomOfChoice hat
  have hget : ∀ (j : Nat) (s : SH), ((List.range xs.length).map f)[j]? = some s → j < xs.length ∧ s = f j := by
    intro j s hj
    have hl := (List.getElem?_eq_some_iff.1 hj).1
    rw [List.length_map, List.length_range] at hl
    rw [List.getElem?_map, List.getElem?_range hl] at hj
    exact ⟨hl, (Option.some.inj hj).symm⟩
  refine ⟨(List.range xs.length).map f, by simp, ⟨by simp, hC.2.1, fun hp => ?_⟩, ?_⟩
  · obtain ⟨⟨ad, e1, _⟩, _⟩ := hf 0 hp
    refine ⟨ad, e1, fun j s hj => ?_⟩
    obtain ⟨hl, rfl⟩ := hget j s hj
    obtain ⟨⟨ad', e1', e2⟩, _⟩ := hf j hl
    rw [e1] at e1'
    injection e1' with e1'
    subst e1'
    refine ⟨[shE (f j)], rfl, rfl, fun i u hu => ?_⟩
    have e0 : i = 0 := by have := (List.getElem?_eq_some_iff.1 hu).1; simp at this; exact this
    subst e0
    have hu : shE (f j) = u := by simpa using hu
    rw [← hu, show kSH.sz = 1 from rfl, Nat.mul_one, Nat.add_zero]
    exact e2
  · intro j s b hj hb
    obtain ⟨hl, rfl⟩ := hget j s hj
    have := (hf j hl).2
    rw [List.getD_eq_getElem?_getD, hb, Option.getD_some] at this
    exact this
theorem heads_F {w : World} {B : Nat} {okr ok : Nat → Prop} {A : Option Addr} {n c : Nat} {hs : List SH} {out : List (List Int)} (h : kSH.R 27 w B okr (.slice A n c) hs) (hok : ∀ k, okr k → ok k) (hl : out.length = hs.length)
    (ht : ∀ (j : Nat) (s : SH) (b : List Int), hs[j]? = some s → out[j]? = some b → TxF ok w s b) : Kd.F (Kd.slice 5 (Kd.int .u8)) w ok A out.length out := by
  intro W' hW
  have hR := Kd.R_step h (fun k hk hlt => hW k (hok k hk) hlt)
  obtain ⟨h1, h2, h3⟩ := Kd.R_reads' hR
  refine ⟨rfl, by rw [hl]; exact h3.2.1, fun hp => ?_⟩
  obtain ⟨ad, e, hc⟩ := h3.2.2 (by omega)
  refine ⟨ad, e, fun j b hj => ?_⟩
  have hjl : j < hs.length := by have := (List.getElem?_eq_some_iff.1 hj).1; omega
  obtain ⟨⟨As, ns, c1⟩, hsj⟩ : ∃ s, hs[j]? = some s := ⟨_, List.getElem?_eq_getElem hjl⟩
  obtain ⟨cs, k1, k2, k3⟩ := hc j _ hsj
  obtain ⟨t1, t2, t3⟩ := ht j _ b hsj hj
  have t1 : ns = b.length := t1
  refine ⟨cs, k1, ⟨As, c1, ?_, t2, t3 W' hW⟩, k3⟩
  rw [← t1]; exact k2
theorem kSH_C_cell {w : World} {A : Option Addr} {n i : Nat} {ss : List SH} {s : SH} (h : kSH.C w A n ss) (hi : ss[i]? = some s) : ∃ ad, A = some ad ∧ w.cell? (ad.add i) = some (shE s) := by
  obtain ⟨h1, h2, h3⟩ := h
  obtain ⟨ad, e, hc⟩ := h3 (by have := (List.getElem?_eq_some_iff.1 hi).1; omega)
  obtain ⟨cs, k1, k2, k3⟩ := hc i s hi
  have k2 : cs = [shE s] := k2
  subst k2
  have := k3 0 _ rfl
  rw [show kSH.sz = 1 from rfl, Nat.mul_one, Nat.add_zero] at this
  exact ⟨ad, e, this⟩
theorem tx_app {ok : Nat → Prop} {w : World} {h1 h2 : List SH} {o1 o2 : List (List Int)} (hl : h1.length = o1.length) (t1 : ∀ (j : Nat) (s : SH) (b : List Int), h1[j]? = some s → o1[j]? = some b → TxF ok w s b)
    (t2 : ∀ (j : Nat) (s : SH) (b : List Int), h2[j]? = some s → o2[j]? = some b → TxF ok w s b) : ∀ (j : Nat) (s : SH) (b : List Int), (h1 ++ h2)[j]? = some s → (o1 ++ o2)[j]? = some b → TxF ok w s b := by
  intro j s b a1 a2
  by_cases e : j < h1.length
  · rw [List.getElem?_append_left e] at a1
    rw [List.getElem?_append_left (by omega)] at a2
    exact t1 j s b a1 a2
  · rw [List.getElem?_append_right (by omega)] at a1
    rw [List.getElem?_append_right (by omega), ← hl] at a2
    exact t2 _ s b a1 a2
theorem tx_one {ok : Nat → Prop} {w : World} {s : SH} {b : List Int} (h : TxF ok w s b) : ∀ (j : Nat) (s' : SH) (b' : List Int), [s][j]? = some s' → [b][j]? = some b' → TxF ok w s' b' := by
  intro j s' b' a1 a2
  have e : j = 0 := by have := (List.getElem?_eq_some_iff.1 a1).1; simp at this; exact this
  subst e
  have e1 : s = s' := by simpa using a1
  have e2 : b = b' := by simpa using a2
  subst e1 e2
  exact h
theorem sz_drew (w : World) : w.drew.heap.size = w.heap.size := rfl
theorem sz_alloc (w : World) (o : Obj) : (w.alloc o).heap.size = w.heap.size + 1 := by simp
theorem nil27 (W : World) (base g : Nat) (hg : g = W.heap.size) (hb : base ≤ g) : kSH.R 27 (W.alloc (Obj.cells #[] 27)) base (fun _ => True) (.slice (some ⟨g, 0, none⟩) 0 0) [] := by
  subst hg
  exact Kd.R_of_own (enc := shE) (xs := ([] : List SH)) ⟨rfl, .inr ⟨W.heap.size, 0, #[], rfl, hb, blk_new W _, Nat.le_refl _, by decide, rfl, rfl⟩⟩ (fun _ _ => trivial)
theorem one_row27 {w : World} {b : Nat} {s : SH} (hb : w.heap[b]? = some (.cells #[shE s] 27 (0, 0))) : ReadsRow (fun (x : SH) (cs : List Value) => cs = [shE x]) kSH.sz w (some ⟨b, 0, none⟩) 1 [s] := by
  refine ⟨rfl, by decide, fun _ => ⟨_, rfl, fun j p hj => ?_⟩⟩
  have e : j = 0 := by have := (List.getElem?_eq_some_iff.1 hj).1; simp at this; exact this
  subst e
  have e2 : s = p := by simpa using hj
  subst e2
  refine ⟨[shE s], rfl, rfl, fun i u hu => ?_⟩
  have e3 : i = 0 := by have := (List.getElem?_eq_some_iff.1 hu).1; simp at this; exact this
  subst e3
  have e4 : shE s = u := by simpa using hu
  subst e4
  exact blk_cell hb 0
theorem C_M27 {W : World} {base n : Nat} {okp : Nat → Prop} {A : Option Addr} {ss : List SH} (h : kSH.C W A n ss) : ReadsRow (kSH.M W base okp) kSH.sz W A n ss := h
theorem box27 (W : World) (g : Nat) (hg : g = W.heap.size) (o : Obj) : (W.alloc o).heap[g]? = some o := by subst hg; exact blk_new W o
theorem upB_drop {H : List Int → List Int → Option (List Int)} {xs : List (List Int)} {i : Nat} {s f : List Int} (h : upB_ H (xs.drop i) s = some f) {x : List Int} (hi : xs[i]? = some x) : ∃ t, H x s = some t ∧ upB_ H (xs.drop (i + 1)) t = some f := by
  have hl := (List.getElem?_eq_some_iff.1 hi).1
  rw [List.drop_eq_getElem_cons hl, upB_] at h
  obtain ⟨t, h1, h2⟩ := Option.bind_eq_some_iff.1 h
  have e : xs[i] = x := by rw [List.getElem?_eq_getElem hl] at hi; exact Option.some.inj hi
  exact ⟨t, by rw [← e]; exact h1, h2⟩
def spec_Folded.f (k : Nat) (a0 a1 a2 a3 a4 a5 : Int) (l1 : List S49) (b1 b2 b3 b4 : Int) (l2 : List (List Int)) : Option (List (List Int)) :=
  if b3 = b4 then some l2 else if 0 ≤ b3 ∧ b3 < b4 ∧ b4 ≤ l2.length ∧ l2.length < 1000000000000 then (upB_ (spec_HashChildren.f k a0 a1 a2 a3 a4 a5) ((l2.take b4.toNat).drop (b3.toNat + 1)) (l2.getD b3.toNat [])).bind fun f => some (l2.take b3.toNat ++ f :: l2.drop b4.toNat) else none
theorem upB_mono' {H H' : List Int → List Int → Option (List Int)} (h : ∀ a b, LeO (H a b) (H' a b)) : ∀ l s, LeO (upB_ H l s) (upB_ H' l s)
  | [], s => LeO.refl _
  | x :: xs, s => LeO.bind (h x s) (fun t => upB_mono' h xs t)
theorem spec_Folded.mono : ∀ a0 a1 a2 a3 a4 a5 l1 b1 b2 b3 b4 l2 k, LeO (spec_Folded.f k a0 a1 a2 a3 a4 a5 l1 b1 b2 b3 b4 l2) (spec_Folded.f (k + 1) a0 a1 a2 a3 a4 a5 l1 b1 b2 b3 b4 l2) := by
  intro a0 a1 a2 a3 a4 a5 l1 b1 b2 b3 b4 l2 k
  unfold spec_Folded.f
  exact LeO.ite (LeO.refl _) (LeO.ite (LeO.bind (upB_mono' (fun a b => spec_HashChildren.mono _ _ _ _ _ _ _ _ _) _ _) (fun f => LeO.refl _)) (LeO.refl _))
set_option maxHeartbeats 16000000 in
set_option maxRecDepth 100000 in
theorem spec_Folded.calls (k : Nat) (a0 a1 a2 a3 a4 a5 : Int) (A1 : Option Addr) (c1 : Nat) (l1 : List S49) (b1 b2 b3 b4 : Int) (P2 : Nat → Prop) (A2 : Option Addr) (c2 : Nat) (l2 : List (List Int)) (r : List (List Int)) (w : World) (hr1 : Kd.C k49 w A1 l1.length l1) (hc1 : l1.length ≤ c1) (hs2 : Kd.V (Kd.slice 5 (Kd.int .u8)) 27 w w.heap.size (fun k_ => P2 k_) (.slice A2 l2.length c2) l2) (h : spec_Folded.f k a0 a1 a2 a3 a4 a5 l1 b1 b2 b3 b4 l2 = some r) :
    Calls Tryd.prog 30 #[.agg #[.int .i64 a0, .int .i64 a1, .int .i64 a2, .int .u64 a3, .int .u64 a4, .int .u64 a5], .agg #[.slice A1 l1.length c1, .int .u64 b1, .int .u64 b2, .int .i64 b3, .int .i64 b4], .slice A2 l2.length c2] w fun e w' => ∃ v0_ : Value, e = .returned (v0_) ∧ Kd.V (Kd.slice 5 (Kd.int .u8)) 27 w' w.heap.size (fun k_ => (P2 k_ ∨ w.heap.size ≤ k_)) v0_ r ∧ Below w.heap.size w w' := by
  unfold spec_Folded.f at h
  by_cases he : b3 = b4
  · rw [if_pos he] at h
    obtain rfl := Option.some.inj h
    have d1 : (b3 == b4) = true := beq_iff_eq.mpr he
    have HV := Aside0.mk hs2
    clear hs2 hr1 hc1 h he
    go_enter Tryd.func30, Tryd.ntmps30
    go_wp2
    go_ret
    refine ⟨_, rfl, ?_, ?_⟩
    · exact Kd.V_mono (Kd.V_below HV.out (by repeat (first | exact Below.refl _ _ | apply below_alloc | apply pw_below_drewN | apply below_drew1))) (fun k hk => .inl hk)
    · repeat (first | exact Below.refl _ _ | apply below_alloc | apply pw_below_drewN | apply below_drew1)
  · rw [if_neg he] at h
    by_cases hb : 0 ≤ b3 ∧ b3 < b4 ∧ b4 ≤ l2.length ∧ l2.length < 1000000000000
    case neg => rw [if_neg hb] at h; cases h
    rw [if_pos hb] at h
    obtain ⟨f, hf, h⟩ := Option.bind_eq_some_iff.1 h
    obtain rfl := Option.some.inj h
    obtain ⟨b, rfl⟩ : ∃ n : Nat, b3 = (n : Int) := ⟨b3.toNat, by omega⟩
    obtain ⟨e, rfl⟩ : ∃ n : Nat, b4 = (n : Int) := ⟨b4.toNat, by omega⟩
    rw [Int.toNat_natCast, Int.toNat_natCast] at hf
    rw [Int.toNat_natCast, Int.toNat_natCast]
    have hbe : b < e := by omega
    have hel : e ≤ l2.length := by omega
    have hmx : l2.length < 1000000000000 := by omega
    obtain ⟨hnn, hlc, hF2⟩ := Kd.V_at hs2
    obtain ⟨ss, hsl, hSC, hTx⟩ := V_heads hs2
    have hss : ss.length = l2.length := hsl
    rw [← hsl] at hSC
    -- the cuts
    obtain ⟨i0, hi0, _, hsz, _⟩ := info_parts info27
    have hcut1 := cut_mid (P := Tryd.prog) 25 27 .i64 .i64 Tryd.underlying25 hi0 1 hsz A2 l2.length c2 ((b : Int) + 1) (e : Int) (by omega) (by omega) (by omega) hlc
    have hcut2 := cut_to (P := Tryd.prog) 25 27 .i64 Tryd.underlying25 hi0 A2 l2.length c2 (b : Int) (by omega) (by omega) hlc
    have hcut3 := cut_from (P := Tryd.prog) 25 27 .i64 Tryd.underlying25 hi0 1 hsz A2 l2.length c2 (e : Int) (by omega) (by omega)
    have hm1 := Kd.C_mid (lo := b + 1) (hi := e) (c := c2) hSC (by omega) (by omega) (by omega)
    have hm2 := Kd.C_take (m := b) hSC (by omega)
    have hm3 := Kd.C_drop (m := e) (c := c2) hSC (by omega) (by omega)
    have htn : ((b : Int) + 1).toNat = b + 1 := by omega
    rw [htn, Int.toNat_natCast] at hcut1
    rw [Int.toNat_natCast] at hcut2 hcut3
    obtain ⟨sm, hsm⟩ : ∃ sm, sm = (ss.take e).drop (b + 1) := ⟨_, rfl⟩
    obtain ⟨sl, hslf⟩ : ∃ sl, sl = ss.take b := ⟨_, rfl⟩
    obtain ⟨sr, hsr⟩ : ∃ sr, sr = ss.drop e := ⟨_, rfl⟩
    have lm1 : sm.length = e - (b + 1) := by rw [hsm, List.length_drop, List.length_take]; omega
    have lm2 : sl.length = b := by rw [hslf, List.length_take]; omega
    have lm3 : sr.length = l2.length - e := by rw [hsr, List.length_drop]; omega
    obtain ⟨Am, hAm⟩ : ∃ Am, Am = (if c2 = b + 1 then A2 else A2.map (·.add ((b + 1) * 1))) := ⟨_, rfl⟩
    obtain ⟨Ar, hAr⟩ : ∃ Ar, Ar = (if c2 = e then A2 else A2.map (·.add (e * 1))) := ⟨_, rfl⟩
    replace hm1 : kSH.C w Am sm.length sm := by rw [hAm, hsm]; exact hm1
    replace hm2 : kSH.C w A2 sl.length sl := by rw [hslf]; exact hm2
    replace hm3 : kSH.C w Ar sr.length sr := by rw [hAr, hsr]; exact hm3
    rw [← hAm, ← lm1] at hcut1
    replace hcut2 : ∀ W : World, (Instr.slice 25 (.slice A2 l2.length c2) none (some (.int .i64 (b : Int))) none).run Tryd.prog W = .ok (.slice A2 sl.length c2) W := by rw [lm2]; exact hcut2
    rw [← hAr, ← lm3] at hcut3
    obtain ⟨⟨Ab, nb, cb⟩, hsb⟩ : ∃ s, ss[b]? = some s := ⟨_, List.getElem?_eq_getElem (by omega)⟩
    obtain ⟨x, hxb⟩ : ∃ x, l2[b]? = some x := ⟨_, List.getElem?_eq_getElem (by omega)⟩
    rw [List.getD_eq_getElem?_getD, hxb, Option.getD_some] at hf
    obtain ⟨ad, rfl, hcb⟩ := kSH_C_cell hSC hsb
    replace hcb : w.cell? (ad.add b) = some (.slice Ab nb cb) := hcb
    have HTb := Aside0.mk ((hTx b _ _ hsb hxb).mono (ok' := fun k_ => P2 k_ ∨ w.heap.size ≤ k_) (fun _ h => .inl h))
    have HF := Aside0.mk hf
    have HM1 := Aside0.mk hm1
    have HM2 := Aside0.mk hm2
    have HM3 := Aside0.mk hm3
    have HTM := Aside0.mk (fun (j : Nat) (s : SH) (y : List Int) (h1 : sm[j]? = some s) (h2 : ((l2.take e).drop (b + 1))[j]? = some y) => hTx (b + 1 + j) s y (by
      rw [hsm, List.getElem?_drop, List.getElem?_take] at h1; split at h1
      · exact h1
      · cases h1) (by
      rw [List.getElem?_drop, List.getElem?_take] at h2; split at h2
      · exact h2
      · cases h2))
    have HTL := Aside0.mk (fun (j : Nat) (s : SH) (y : List Int) (h1 : sl[j]? = some s) (h2 : (l2.take b)[j]? = some y) => hTx j s y (by
      rw [hslf, List.getElem?_take] at h1; split at h1
      · exact h1
      · cases h1) (by
      rw [List.getElem?_take] at h2; split at h2
      · exact h2
      · cases h2))
    have HTR := Aside0.mk (fun (j : Nat) (s : SH) (y : List Int) (h1 : sr[j]? = some s) (h2 : (l2.drop e)[j]? = some y) => hTx (e + j) s y (by
      rw [hsr, List.getElem?_drop] at h1; exact h1) (by rw [List.getElem?_drop] at h2; exact h2))
    have HMX := Aside0.mk hmx
    have hmx2 : l2.length ≤ 9223372036854775807 := by omega
    have HL1 := Aside0.mk lm1
    have HL2 := Aside0.mk lm2
    have HL3 := Aside0.mk lm3
    have HLC := Aside0.mk hlc
    have HBE := Aside0.mk hbe
    have HEL := Aside0.mk hel
    have d0 : ((b : Int) == (e : Int)) = false := beq_eq_false_iff_ne.mpr (by omega)
    have d1 : (b == e) = false := beq_eq_false_iff_ne.mpr (by omega)
    have q0 : 0 ≤ (b : Int) := by omega
    have q1 : (b : Int) < (l2.length : Int) := by omega
    have q2 : decide ((b : Int) < (l2.length : Int)) = true := decide_eq_true q1
    have q3 : decide (b < l2.length) = true := decide_eq_true (by omega)
    have hcb2 : ∀ o o' : Obj, World.cell? ((w.alloc o).alloc o') (ad.add b) = some (.slice Ab nb cb) := fun o o' => pw_cell_below (below_alloc (below_alloc (Below.refl _ _) o) o') hcb
    clear hr1 hc1 hb he hf hs2 hnn hlc hF2 hsl hSC hTx hss hi0 hsz hm1 hm2 hm3 htn hsm hslf hsr lm1 lm2 lm3 hAm hAr hsb hxb h hbe hel hmx
    go_enter Tryd.func30, Tryd.ntmps30
    go_wp2_with (fail)
    have BK1 := Aside0.mk (blk_alloc (blk_new w (Obj.cells #[Value.int .i64 a0, Value.int .i64 a1, Value.int .i64 a2, Value.int .u64 a3, Value.int .u64 a4, Value.int .u64 a5] 24)) (Obj.cells #[Value.slice A1 l1.length c1, Value.int .u64 b1, Value.int .u64 b2, Value.int .i64 (b : Int), Value.int .i64 (e : Int)] 61))
    have BK2 := Aside0.mk (blk_new (w.alloc (Obj.cells #[Value.int .i64 a0, Value.int .i64 a1, Value.int .i64 a2, Value.int .u64 a3, Value.int .u64 a4, Value.int .u64 a5] 24)) (Obj.cells #[Value.slice A1 l1.length c1, Value.int .u64 b1, Value.int .u64 b2, Value.int .i64 (b : Int), Value.int .i64 (e : Int)] 61))
    have HB := Aside0.mk (below_alloc (below_alloc (Below.refl w.heap.size w) (Obj.cells #[Value.int .i64 a0, Value.int .i64 a1, Value.int .i64 a2, Value.int .u64 a3, Value.int .u64 a4, Value.int .u64 a5] 24)) (Obj.cells #[Value.slice A1 l1.length c1, Value.int .u64 b1, Value.int .u64 b2, Value.int .i64 (b : Int), Value.int .i64 (e : Int)] 61))
    rw [show (w.alloc (Obj.cells #[Value.int .i64 a0, Value.int .i64 a1, Value.int .i64 a2, Value.int .u64 a3, Value.int .u64 a4, Value.int .u64 a5] 24)).heap.size = w.heap.size + 1 by simp] at BK2
    generalize (w.alloc (Obj.cells #[Value.int .i64 a0, Value.int .i64 a1, Value.int .i64 a2, Value.int .u64 a3, Value.int .u64 a4, Value.int .u64 a5] 24)).alloc (Obj.cells #[Value.slice A1 l1.length c1, Value.int .u64 b1, Value.int .u64 b2, Value.int .i64 (b : Int), Value.int .i64 (e : Int)] 61) = W at BK1 BK2 HB ⊢
    clear hcb hcb2 d0 d1 q0 q1 q2 q3
    obtain ⟨ok, hok⟩ : ∃ ok, ok = fun k_ => P2 k_ ∨ w.heap.size ≤ k_ := ⟨_, rfl⟩
    have HOK := Aside0.mk hok
    rw [← hok] at HTb
    have HNEW := Aside0.mk (show ∀ k_, w.heap.size ≤ k_ → ok k_ from fun k_ hk => by rw [hok]; exact .inr hk)
    have HOLD := Aside0.mk (show ∀ k_, P2 k_ → ok k_ from fun k_ hk => by rw [hok]; exact .inl hk)
    clear hok
    go_loopg [7, 29] sm.length (fun kq v7 v29 w' => ∃ (i : Nat) (s : SH) (t : List Int), v7 = .slice s.1 s.2.1 s.2.2 ∧ v29 = .int .i64 (i : Int) ∧ Aside0 (i + kq = sm.length) ∧ Aside0 (TxF ok w' s t) ∧ Aside0 (upB_ (spec_HashChildren.f k a0 a1 a2 a3 a4 a5) (((l2.take e).drop (b + 1)).drop i) t = some f) ∧ Aside0 (Below W.heap.size W w'))
    case atStart => exact ⟨0, (Ab, nb, cb), x, rfl, rfl, ⟨by omega⟩, ⟨HTb.out.below HB.out⟩, ⟨by rw [List.drop_zero]; exact HF.out⟩, ⟨Below.refl _ _⟩⟩
    case round =>
      clear HF HTb
      obtain ⟨i, ⟨A5, n5, c5⟩, t, rfl, rfl, HI, HT, HU, HB1⟩ := hrel
      dsimp only
      obtain ⟨rfl, tt2, tt3⟩ := HT.out.at
      have HT2 := Aside0.mk tt2
      have HT3 := Aside0.mk tt3
      clear tt2 tt3
      have HBW := Aside0.mk (HB.out.trans (HB1.out.mono HB.out.size))
      cases gk with
      | zero =>
        have hi : i = sm.length := by have := HI.out; omega
        have d8 : decide ((i : Int) < (sm.length : Int)) = false := decide_eq_false (by omega)
        have d9 : decide (i < sm.length) = false := decide_eq_false (by omega)
        have ht : t = f := by
          have h := HU.out
          rw [List.drop_of_length_le (by rw [List.length_drop, List.length_take]; have := HL1.out; have := HEL.out; omega)] at h
          exact Option.some.inj h
        have HTF := Aside0.mk ht
        clear ht
        have BB2 := Aside0.mk (blk_below BK2.out HB1.out)
        have e63 := blk_cell BB2.out 3
        replace e63 : World.cell? _ ⟨w.heap.size + 1, 3, none⟩ = some (.int .i64 (b : Int)) := e63
        have e64 := blk_cell BB2.out 4
        replace e64 : World.cell? _ ⟨w.heap.size + 1, 4, none⟩ = some (.int .i64 (e : Int)) := e64
        go_wp2_with (fail)
        have HBn := Aside0.mk (Below.refl wr.heap.size wr)
        have hM2 := Aside0.mk (Kd.C_below HM2.out HBW.out)
        have hM3 := Aside0.mk (Kd.C_below HM3.out HBW.out)
        have hcb9 := blk_cell BB2.out 3
        clear HU HM1 HTM hcb9 hcut1
        have HSZ := Aside0.mk (Nat.le_refl wr.heap.size)
        go_region_held_law (fun w' => w'.cell? ⟨w.heap.size + 1, 3, none⟩ = some (.int .i64 (b : Int)) ∧ w'.cell? ⟨w.heap.size + 1, 4, none⟩ = some (.int .i64 (e : Int))) (first | exact ⟨v63_, v64_⟩ | go_keep) (first
          | (refine Kd.R_append_rows_step kSH (w0 := wr) wr.heap.size ?hw (.tmp 38) (.tmp 42) 25 27 (.slice none 0 0) 24 rfl Tryd.underlying25 info27 rfl (by decide) (by omega) (.slice (some ⟨wr.heap.size, 0, none⟩) 0 0) ([] : List SH) sl (some ad) sl.length c2 (fun _ => True) (fun _ => False) rfl rfl ?aO ?aR (fun _ _ h => h) (fun _ h => h.elim) ?aF ?aB ?aS ?aL ?_
             (case hw => simp [Region.wanted])
             (case aO => exact Kd.R_drew (nil27 wr _ _ rfl (Nat.le_refl _)))
             (case aR => exact C_M27 (Kd.C_drew (Kd.C_alloc hM2.out _)))
             (case aF => exact fun _ _ => trivial)
             (case aB => exact below_drew (below_alloc (Below.refl _ _) _))
             (case aS => simp only [sz_drew, sz_alloc]; omega)
             (case aL => have := HL2.out; have := HL3.out; have := HMX.out; have := HEL.out; have := HBE.out; simp only [List.length_nil, List.length_append, List.length_singleton, List.nil_append]; omega)
             intro v5 w5 hR1 hB1 hg1 hn1
             have HV5 := Aside0.mk hR1
             have HBn := Aside0.mk hB1
             have HSZ := Aside0.mk hB1.size
             have BX := Aside0.mk (show w5.heap[w.heap.size + 1]? = some _ from (hB1.block _ (blk_lt BB2.out)).trans BB2.out)
             have v63_ := blk_cell BX.out 3
             have v64_ := blk_cell BX.out 4
             replace v63_ : World.cell? _ ⟨w.heap.size + 1, 3, none⟩ = some (.int .i64 (b : Int)) := v63_
             replace v64_ : World.cell? _ ⟨w.heap.size + 1, 4, none⟩ = some (.int .i64 (e : Int)) := v64_
             clear hR1 hB1 hg1 hn1)
          | (refine Kd.R_append_rows_step kSH (w0 := wr) wr.heap.size ?hw (.tmp 38) (.tmp 42) 25 27 (.slice none 0 0) 24 rfl Tryd.underlying25 info27 rfl (by decide) (by omega) (.slice (some ⟨wr.heap.size, 0, none⟩) 0 0) ([] : List SH) sl (some ad) sl.length c2 (fun _ => True) (fun _ => False) rfl rfl ?aO ?aR (fun _ _ h => h) (fun _ h => h.elim) ?aF ?aB ?aS ?aL ?_
             (case hw => simp [Region.wanted])
             (case aO => exact Kd.R_drew (Kd.R_alloc (nil27 wr _ _ rfl (Nat.le_refl _)) _))
             (case aR => exact C_M27 (Kd.C_drew (Kd.C_alloc (Kd.C_alloc hM2.out _) _)))
             (case aF => exact fun _ _ => trivial)
             (case aB => exact below_drew (below_alloc (below_alloc (Below.refl _ _) _) _))
             (case aS => simp only [sz_drew, sz_alloc]; omega)
             (case aL => have := HL2.out; have := HL3.out; have := HMX.out; have := HEL.out; have := HBE.out; simp only [List.length_nil, List.length_append, List.length_singleton, List.nil_append]; omega)
             intro v5 w5 hR1 hB1 hg1 hn1
             have BOX := Aside0.mk (blk_grown (blk_drew (box27 (wr.alloc _) (wr.heap.size + 1) (by simp only [sz_alloc]) (.cells #[.slice A5 t.length c5] 27))) hg1 (by simp [Value.ownBlock]))
             have HV5 := Aside0.mk hR1
             have HBn := Aside0.mk hB1
             have HSZ := Aside0.mk hB1.size
             have BX := Aside0.mk (show w5.heap[w.heap.size + 1]? = some _ from (hB1.block _ (blk_lt BB2.out)).trans BB2.out)
             have v63_ := blk_cell BX.out 3
             have v64_ := blk_cell BX.out 4
             replace v63_ : World.cell? _ ⟨w.heap.size + 1, 3, none⟩ = some (.int .i64 (b : Int)) := v63_
             replace v64_ : World.cell? _ ⟨w.heap.size + 1, 4, none⟩ = some (.int .i64 (e : Int)) := v64_
             clear hR1 hB1 hg1 hn1)
          | (refine Kd.R_append_rows_step kSH (w0 := wr) wr.heap.size ?hw (.tmp 38) (.tmp 42) 25 27 (.slice none 0 0) 24 rfl Tryd.underlying25 info27 rfl (by decide) (by omega) (.slice (some ⟨wr.heap.size + 1, 0, none⟩) 0 0) ([] : List SH) sl (some ad) sl.length c2 (fun _ => True) (fun _ => False) rfl rfl ?aO ?aR (fun _ _ h => h) (fun _ h => h.elim) ?aF ?aB ?aS ?aL ?_
             (case hw => simp [Region.wanted])
             (case aO => exact Kd.R_drew (nil27 (wr.alloc _) _ _ (by simp only [sz_alloc]) (by omega)))
             (case aR => exact C_M27 (Kd.C_drew (Kd.C_alloc (Kd.C_alloc hM2.out _) _)))
             (case aF => exact fun _ _ => trivial)
             (case aB => exact below_drew (below_alloc (below_alloc (Below.refl _ _) _) _))
             (case aS => simp only [sz_drew, sz_alloc]; omega)
             (case aL => have := HL2.out; have := HL3.out; have := HMX.out; have := HEL.out; have := HBE.out; simp only [List.length_nil, List.length_append, List.length_singleton, List.nil_append]; omega)
             intro v5 w5 hR1 hB1 hg1 hn1
             have BOX := Aside0.mk (blk_grown (blk_drew (blk_alloc (box27 wr wr.heap.size rfl (.cells #[.slice A5 t.length c5] 27)) _)) hg1 (by simp [Value.ownBlock]))
             have HV5 := Aside0.mk hR1
             have HBn := Aside0.mk hB1
             have HSZ := Aside0.mk hB1.size
             have BX := Aside0.mk (show w5.heap[w.heap.size + 1]? = some _ from (hB1.block _ (blk_lt BB2.out)).trans BB2.out)
             have v63_ := blk_cell BX.out 3
             have v64_ := blk_cell BX.out 4
             replace v63_ : World.cell? _ ⟨w.heap.size + 1, 3, none⟩ = some (.int .i64 (b : Int)) := v63_
             replace v64_ : World.cell? _ ⟨w.heap.size + 1, 4, none⟩ = some (.int .i64 (e : Int)) := v64_
             clear hR1 hB1 hg1 hn1)
          | (refine Kd.R_append_rows_step kSH (w0 := wr) wr.heap.size ?hw (.tmp 43) (.tmp 45) 25 27 (.slice none 0 0) 24 rfl Tryd.underlying25 info27 rfl (by decide) (by omega) v5 ([] ++ sl : List SH) [(A5, t.length, c5)] (some ⟨_, 0, none⟩) 1 1 (fun _ => True) (fun _ => False) rfl rfl ?aO ?aR (fun _ _ h => h) (fun _ h => h.elim) ?aF ?aB ?aS ?aL ?_
             (case hw => simp [Region.wanted])
             (case aO => exact HV5.out)
             (case aR => exact C_M27 (one_row27 (s := (A5, t.length, c5)) BOX.out))
             (case aF => exact fun _ _ => trivial)
             (case aB => exact HBn.out)
             (case aS => exact HSZ.out)
             (case aL => have := HL2.out; have := HL3.out; have := HMX.out; have := HEL.out; have := HBE.out; simp only [List.length_nil, List.length_append, List.length_singleton, List.nil_append]; omega)
             intro v6 w6 hR1 hB1 hg1 hn1
             have HV6 := Aside0.mk hR1
             have HBn := Aside0.mk hB1
             have HSZ := Aside0.mk hB1.size
             have BX := Aside0.mk (show w6.heap[w.heap.size + 1]? = some _ from (hB1.block _ (blk_lt BB2.out)).trans BB2.out)
             have v63_ := blk_cell BX.out 3
             have v64_ := blk_cell BX.out 4
             replace v63_ : World.cell? _ ⟨w.heap.size + 1, 3, none⟩ = some (.int .i64 (b : Int)) := v63_
             replace v64_ : World.cell? _ ⟨w.heap.size + 1, 4, none⟩ = some (.int .i64 (e : Int)) := v64_
             clear hR1 hB1 hg1 hn1)
          | (refine Kd.R_append_rows_step kSH (w0 := wr) wr.heap.size ?hw (.tmp 43) (.tmp 45) 25 27 (.slice none 0 0) 24 rfl Tryd.underlying25 info27 rfl (by decide) (by omega) v5 ([] ++ sl : List SH) [(A5, t.length, c5)] (some ⟨_, 0, none⟩) 1 1 (fun _ => True) (fun _ => False) rfl rfl ?aO ?aR (fun _ _ h => h) (fun _ h => h.elim) ?aF ?aB ?aS ?aL ?_
             (case hw => simp [Region.wanted])
             (case aO => exact Kd.R_alloc HV5.out _)
             (case aR => exact C_M27 (one_row27 (s := (A5, t.length, c5)) (box27 w5 _ rfl _)))
             (case aF => exact fun _ _ => trivial)
             (case aB => exact HBn.out.alloc HSZ.out _)
             (case aS => have := HSZ.out; simp only [sz_alloc]; omega)
             (case aL => have := HL2.out; have := HL3.out; have := HMX.out; have := HEL.out; have := HBE.out; simp only [List.length_nil, List.length_append, List.length_singleton, List.nil_append]; omega)
             intro v6 w6 hR1 hB1 hg1 hn1
             have HV6 := Aside0.mk hR1
             have HBn := Aside0.mk hB1
             have HSZ := Aside0.mk hB1.size
             have BX := Aside0.mk (show w6.heap[w.heap.size + 1]? = some _ from (hB1.block _ (blk_lt BB2.out)).trans BB2.out)
             have v63_ := blk_cell BX.out 3
             have v64_ := blk_cell BX.out 4
             replace v63_ : World.cell? _ ⟨w.heap.size + 1, 3, none⟩ = some (.int .i64 (b : Int)) := v63_
             replace v64_ : World.cell? _ ⟨w.heap.size + 1, 4, none⟩ = some (.int .i64 (e : Int)) := v64_
             clear hR1 hB1 hg1 hn1)
          | (refine Kd.R_append_rows_step kSH (w0 := wr) wr.heap.size ?hw (.tmp 46) (.tmp 50) 25 27 (.slice none 0 0) 24 rfl Tryd.underlying25 info27 rfl (by decide) (by omega) v6 ([] ++ sl ++ [(A5, t.length, c5)] : List SH) sr Ar sr.length (c2 - e) (fun _ => True) (fun _ => False) rfl rfl ?aO ?aR (fun _ _ h => h) (fun _ h => h.elim) ?aF ?aB ?aS ?aL ?_
             (case hw => simp [Region.wanted])
             (case aO => exact HV6.out)
             (case aR => exact C_M27 (Kd.C_below hM3.out HBn.out))
             (case aF => exact fun _ _ => trivial)
             (case aB => exact HBn.out)
             (case aS => exact HSZ.out)
             (case aL => have := HL2.out; have := HL3.out; have := HMX.out; have := HEL.out; have := HBE.out; simp only [List.length_nil, List.length_append, List.length_singleton, List.nil_append]; omega)
             intro v7 w7 hR1 hB1 hg1 hn1
             have HV7 := Aside0.mk hR1
             have HBn := Aside0.mk hB1
             have HSZ := Aside0.mk hB1.size
             have BX := Aside0.mk (show w7.heap[w.heap.size + 1]? = some _ from (hB1.block _ (blk_lt BB2.out)).trans BB2.out)
             have v63_ := blk_cell BX.out 3
             have v64_ := blk_cell BX.out 4
             replace v63_ : World.cell? _ ⟨w.heap.size + 1, 3, none⟩ = some (.int .i64 (b : Int)) := v63_
             replace v64_ : World.cell? _ ⟨w.heap.size + 1, 4, none⟩ = some (.int .i64 (e : Int)) := v64_
             clear hR1 hB1 hg1 hn1)
          | fail)
        all_goals
          clear v63_ v64_ BX HV5 HV6 hM2 hM3 hcut2 hcut3 e63 e64
          have hR := HV7.out
          obtain ⟨A9, c9, rfl⟩ := Kd.R_slice hR
          clear hR
          go_step
          simp [Act.put]
          go_wp2
          go_ret
          have hR := HV7.out
          have hbw := HBW.out.trans (HBn.out.mono HBW.out.size)
          have hlen : (l2.take b ++ f :: l2.drop e).length = ([] ++ sl ++ [((A5, t.length, c5) : SH)] ++ sr).length := by
            have := HL2.out; have := HL3.out; have := HBE.out; have := HEL.out
            simp only [List.nil_append, List.length_append, List.length_cons, List.length_nil, List.length_take, List.length_drop]; omega
          have hF := heads_F (ok := ok) (Kd.R_tight rfl hR) (fun k_ hk => HNEW.out k_ (Nat.le_trans HBW.out.size (Kd.R_base hR k_ hk.symm))) hlen (by
            rw [show l2.take b ++ f :: l2.drop e = ([] ++ l2.take b ++ [f] ++ l2.drop e) by simp]
            refine tx_app ?_ (tx_app ?_ (tx_app rfl (fun j s b h _ => by simp at h) (fun j s b h1 h2 => ((HTL.out j s b h1 h2).mono HOLD.out).below hbw)) (tx_one (HTF.out ▸ (HT.out.below HBn.out)))) (fun j s b h1 h2 => ((HTR.out j s b h1 h2).mono HOLD.out).below hbw)
            · have := HL2.out; have := HBE.out; have := HEL.out
              simp only [List.nil_append, List.length_append, List.length_singleton, List.length_take]; omega
            · have := HL2.out; have := HBE.out; have := HEL.out
              simp only [List.nil_append, List.length_take]; omega)
          rw [HOK.out] at hF
          refine ⟨.slice A9 (l2.take b ++ f :: l2.drop e).length c9, ?_, Kd.V_mk (by rw [hlen]; exact (Kd.R_reads' hR).2.1) hF, hbw⟩
          rw [hlen]
          first | rfl | (simp; done) | (simp; omega) | skip
      | succ k1 =>
        have hi : i < sm.length := by have := HI.out; omega
        have d8 : decide ((i : Int) < (sm.length : Int)) = true := decide_eq_true (by omega)
        have d9 : decide (i < sm.length) = true := decide_eq_true hi
        have l0 : 0 ≤ (i : Int) := by omega
        have l1 : (i : Int) < (sm.length : Int) := by omega
        have hml : sm.length ≤ 9223372036854775807 := by have := HL1.out; have := HEL.out; have := HMX.out; omega
        obtain ⟨⟨A6, n6, c6⟩, hsi⟩ : ∃ s, sm[i]? = some s := ⟨_, List.getElem?_eq_getElem hi⟩
        obtain ⟨y, hy⟩ : ∃ y, ((l2.take e).drop (b + 1))[i]? = some y := ⟨_, List.getElem?_eq_getElem (by rw [List.length_drop, List.length_take]; have := HL1.out; have := HEL.out; omega)⟩
        obtain ⟨ad2, rfl, hx1⟩ := kSH_C_cell HM1.out hsi
        replace hx1 : w.cell? (ad2.add i) = some (.slice A6 n6 c6) := hx1
        have hx2 := pw_cell_below HBW.out hx1
        obtain ⟨rfl, y2, y3⟩ := ((HTM.out i _ _ hsi hy).below HBW.out).at
        obtain ⟨t', ht1, ht2⟩ := upB_drop HU.out hy
        have HY2 := Aside0.mk y2
        have HY3 := Aside0.mk y3
        have HT1 := Aside0.mk ht1
        have HU2 := Aside0.mk ht2
        have BB1 := Aside0.mk (blk_below BK1.out HB1.out)
        have y50 : World.cell? _ ⟨w.heap.size, 0, none⟩ = some (.int .i64 a0) := blk_cell BB1.out 0
        have y51 : World.cell? _ ⟨w.heap.size, 1, none⟩ = some (.int .i64 a1) := blk_cell BB1.out 1
        have y52 : World.cell? _ ⟨w.heap.size, 2, none⟩ = some (.int .i64 a2) := blk_cell BB1.out 2
        have y53 : World.cell? _ ⟨w.heap.size, 3, none⟩ = some (.int .u64 a3) := blk_cell BB1.out 3
        have y54 : World.cell? _ ⟨w.heap.size, 4, none⟩ = some (.int .u64 a4) := blk_cell BB1.out 4
        have y55 : World.cell? _ ⟨w.heap.size, 5, none⟩ = some (.int .u64 a5) := blk_cell BB1.out 5
        clear hi hsi hy hx1 y2 y3 ht1 ht2
        go_wp2_with (fail)
        refine (spec_HashChildren.calls k a0 a1 a2 a3 a4 a5 A6 c6 y A5 c5 t t' _ HY3.out HY2.out HT3.out HT2.out HT1.out).mono ?_
        rintro ex w4 ⟨v4, rfl, hR4, hb4⟩
        dsimp only
        obtain ⟨s4, rfl⟩ := kSH_val' hR4
        obtain ⟨A4, n4, c4⟩ := s4
        have HR4 := Aside0.mk (TxF.of_R (ok := ok) (s := (A4, n4, c4)) hR4 (fun k_ hk => HNEW.out k_ (Nat.le_trans HBW.out.size hk)))
        have HB4 := Aside0.mk (HB1.out.trans (hb4.mono HB1.out.size))
        clear hR4 hb4
        dsimp only [shE]
        go_wp2
        go_roundg k1
        case measure => omega
        case rel => exact ⟨i + 1, (A4, n4, c4), t', rfl, by first | rfl | (congr 1), ⟨by have := HI.out; omega⟩, HR4, HU2, HB4⟩
end Go.Proofs.YtielnphmcaecdaaDoor.PAll
