import Derived.Test.YtladpdeneiaaeaaDoorExtSwap
namespace Go.Proofs.YtladpdeneiaaeaaDoor.PShp
open Go.RowKit Go.Proofs.YtladpdeneiaaeaaDoorW.PrintWords Go.Proofs.YtladpdeneiaaeaaDoorW.PrintLast Go.Proofs.YtladpdeneiaaeaaDoorW.PrintMore
set_option linter.unusedVariables false
/-! Rows of cells taken as they are: a row that is the call's own, whose elements lead to what came in. -/
abbrev Raw : Type := { v : Value // v.oneCell' = true }
def rawKd : Kd Raw := Kd.scalar (fun x => x.1) (fun x => x.2)
/-- The cells of a row of slices, as they are. -/
theorem raws {w : World} {A : Option Addr} {n : Nat} {xs : List (List Int)} (h : Kd.C (Kd.slice 5 (Kd.int .u8)) w A n xs) : ∃ rs : List Raw, rs.length = xs.length ∧ Kd.C rawKd w A n rs ∧ ∀ (j : Nat) x, xs[j]? = some x → ∃ r, rs[j]? = some r ∧ (Kd.slice 5 (Kd.int .u8)).K w x [r.1] := by
  obtain ⟨hl, hn, hc⟩ := h
  by_cases h0 : 0 < n
  · obtain ⟨ad, hA, hc⟩ := hc h0
    have hx : ∀ m, m ≤ xs.length → ∃ rs : List Raw, rs.length = m ∧ ∀ (j : Nat) x, j < m → xs[j]? = some x → ∃ r, rs[j]? = some r ∧ (Kd.slice 5 (Kd.int .u8)).K w x [r.1] ∧ w.cell? (ad.add j) = some r.1 := by
      intro m
      induction m with
      | zero => exact fun _ => ⟨[], rfl, fun j x hj => absurd hj (by omega)⟩
      | succ m ih =>
        intro hm
        obtain ⟨rs, h1, h2⟩ := ih (by omega)
        obtain ⟨c, hs, hk, hcell⟩ := hc m _ (List.getElem?_eq_getElem (by omega : m < xs.length))
        obtain ⟨A', c', rfl, hle, hC⟩ := hk
        have h3 := hcell 0 _ rfl
        rw [show (Kd.slice 5 (Kd.int .u8)).sz = 1 from rfl, Nat.mul_one, Nat.add_zero] at h3
        refine ⟨rs ++ [⟨.slice A' (xs[m]'(by omega)).length c', rfl⟩], by simp [h1], fun j x hj hx => ?_⟩
        by_cases e : j < m
        · obtain ⟨r, h4, h5, h6⟩ := h2 j x e hx
          exact ⟨r, by rw [List.getElem?_append_left (by omega)]; exact h4, h5, h6⟩
        · obtain rfl : j = m := by omega
          refine ⟨⟨.slice A' (xs[j]'(by omega)).length c', rfl⟩, by rw [List.getElem?_append_right (by omega), h1, Nat.sub_self]; rfl, ?_, h3⟩
          rw [List.getElem?_eq_getElem (by omega : j < xs.length)] at hx
          obtain rfl := Option.some.inj hx
          exact ⟨A', c', rfl, hle, hC⟩
    obtain ⟨rs, h1, h2⟩ := hx xs.length (Nat.le_refl _)
    refine ⟨rs, h1, ⟨by rw [h1]; exact hl, hn, fun _ => ⟨ad, hA, fun j r hr => ?_⟩⟩, fun j x hx => ?_⟩
    · have hj : j < xs.length := by have := (List.getElem?_eq_some_iff.1 hr).1; omega
      obtain ⟨r', h3, _, h4⟩ := h2 j _ hj (List.getElem?_eq_getElem hj)
      obtain rfl : r' = r := Option.some.inj (h3.symm.trans hr)
      refine ⟨[r'.1], rfl, rfl, fun i u hu => ?_⟩
      cases i with
      | zero =>
        have hu : r'.1 = u := by simpa using hu
        subst hu
        rw [show rawKd.sz = 1 from rfl, Nat.mul_one, Nat.add_zero]; exact h4
      | succ i => simp at hu
    · obtain ⟨r, h3, h4, _⟩ := h2 j x (List.getElem?_eq_some_iff.1 hx).1 hx
      exact ⟨r, h3, h4⟩
  · obtain rfl : xs = [] := List.eq_nil_of_length_eq_zero (by omega)
    exact ⟨[], rfl, ⟨hl, hn, fun h => absurd h h0⟩, fun j x hx => by simp at hx⟩
/-- .. and back. -/
theorem unraw {w : World} {A : Option Addr} {n : Nat} {xs : List (List Int)} {rs : List Raw} (hl : rs.length = xs.length) (h : Kd.C rawKd w A n rs) (hk : ∀ (j : Nat) x, xs[j]? = some x → ∃ r, rs[j]? = some r ∧ (Kd.slice 5 (Kd.int .u8)).K w x [r.1]) : Kd.C (Kd.slice 5 (Kd.int .u8)) w A n xs := by
  obtain ⟨h1, hn, hc⟩ := h
  refine ⟨by rw [← hl]; exact h1, hn, fun h0 => ?_⟩
  obtain ⟨ad, hA, hc⟩ := hc h0
  refine ⟨ad, hA, fun j x hx => ?_⟩
  obtain ⟨r, hr, hK⟩ := hk j x hx
  obtain ⟨c, _, hc2, hcell⟩ := hc j r hr
  have hc2 : c = [r.1] := hc2
  subst hc2
  exact ⟨[r.1], rfl, hK, hcell⟩
/-- Two cells of such a row change places. -/
theorem swap_read {w : World} {xs : List (List Int)} {rs : List Raw} {p q : Nat} {rp rq : Raw} (hp : rs[p]? = some rp) (hq : rs[q]? = some rq) (hl : rs.length = xs.length)
    (hk : ∀ (j : Nat) x, xs[j]? = some x → ∃ r, rs[j]? = some r ∧ (Kd.slice 5 (Kd.int .u8)).K w x [r.1]) :
    ∀ (j : Nat) x, (swp xs (p : Int) (q : Int))[j]? = some x → ∃ r, ((rs.set p rq).set q rp)[j]? = some r ∧ (Kd.slice 5 (Kd.int .u8)).K w x [r.1] := by
  have lp : p < rs.length := (List.getElem?_eq_some_iff.1 hp).1
  have lq : q < rs.length := (List.getElem?_eq_some_iff.1 hq).1
  have xp : xs[p]? = some (rd_L1 xs (p : Int)) := by
    rw [rd_L1_nat, List.getD_eq_getElem?_getD, List.getElem?_eq_getElem (by omega)]; rfl
  have xq : xs[q]? = some (rd_L1 xs (q : Int)) := by
    rw [rd_L1_nat, List.getD_eq_getElem?_getD, List.getElem?_eq_getElem (by omega)]; rfl
  obtain ⟨rp', e1, kp⟩ := hk p _ xp
  obtain rfl : rp' = rp := Option.some.inj (e1.symm.trans hp)
  obtain ⟨rq', e2, kq⟩ := hk q _ xq
  obtain rfl : rq' = rq := Option.some.inj (e2.symm.trans hq)
  intro j x hx
  unfold swp at hx
  rw [Int.toNat_natCast, Int.toNat_natCast, List.getElem?_set, List.length_set] at hx
  rw [List.getElem?_set, List.length_set]
  by_cases h1 : p = j
  · rw [if_pos h1, if_pos (by omega)] at hx
    obtain rfl := Option.some.inj hx
    by_cases h2 : q = j
    · rw [if_pos h2, if_pos (by omega)]
      have hpq : p = q := by omega
      subst hpq
      obtain rfl : rp' = rq' := Option.some.inj (hp.symm.trans hq)
      exact ⟨rp', rfl, kq⟩
    · rw [if_neg h2, List.getElem?_set, if_pos h1, if_pos (by omega)]
      exact ⟨rq', rfl, kq⟩
  · rw [if_neg h1, List.getElem?_set] at hx
    by_cases h2 : q = j
    · rw [if_pos h2, if_pos (by omega)] at hx
      obtain rfl := Option.some.inj hx
      rw [if_pos h2, if_pos (by omega)]
      exact ⟨rp', rfl, kp⟩
    · rw [if_neg h2] at hx
      rw [if_neg h2, List.getElem?_set, if_neg h1]
      exact hk j x hx
/-- What a walk wants to know of such a row when two of its cells change places. -/
theorem want_facts {W : World} {base g n cap : Nat} {ok : Nat → Prop} {rs : List Raw} (hR : rawKd.R 25 W base ok (.slice (some ⟨g, 0, none⟩) n cap) rs) {p q : Nat} {rp rq : Raw} (hp : rs[p]? = some rp) (hq : rs[q]? = some rq) :
    (∃ t, W.cell? ⟨g, p, none⟩ = some t) ∧ W.frozen? ⟨g, p, none⟩ = false ∧ (∃ t, W.cell? ⟨g, q, none⟩ = some t) ∧ W.frozen? ⟨g, q, none⟩ = false ∧
    (∃ t, (W.setCell ⟨g, p, none⟩ rq.1).cell? ⟨g, q, none⟩ = some t) ∧ (W.setCell ⟨g, p, none⟩ rq.1).frozen? ⟨g, q, none⟩ = false ∧
    rawKd.R 25 ((W.setCell ⟨g, p, none⟩ rq.1).setCell ⟨g, q, none⟩ rp.1) base ok (.slice (some ⟨g, 0, none⟩) n cap) ((rs.set p rq).set q rp) := by
  have hl : n = rs.length := (Kd.R_reads' hR).1
  have lp : p < rs.length := (List.getElem?_eq_some_iff.1 hp).1
  have lq : q < rs.length := (List.getElem?_eq_some_iff.1 hq).1
  obtain ⟨ce, hcl, hM, hcc, hfr⟩ := Kd.R_elem hR rp (p : Int) (by omega) (by omega)
  obtain ⟨ce2, hcl2, hM2, hcc2, hfr2⟩ := Kd.R_elem hR rp (q : Int) (by omega) (by omega)
  have e1 : ce = [(rs.getD (p : Int).toNat rp).1] := hM
  have e2 : ce2 = [(rs.getD (q : Int).toNat rp).1] := hM2
  subst e1 e2
  have x1 := hcc 0 _ rfl
  have x2 := hcc2 0 _ rfl
  have f1 := hfr 0
  have f2 := hfr2 0
  have S1 := Kd.R_seg hR (p : Int) (by omega) (by omega) (seg := [rq.1]) (j := 0) (okp := fun _ => False) hcl hcc (Nat.le_refl 1) (x' := rq) rfl (fun _ h => h.elim)
  have hR1 := S1.1
  obtain ⟨ce3, hcl3, hM3, hcc3, hfr3⟩ := Kd.R_elem hR1 rp (q : Int) (by omega) (by omega)
  have e3 : ce3 = [((rs.set (p : Int).toNat rq).getD (q : Int).toNat rp).1] := hM3
  subst e3
  have x3 := hcc3 0 _ rfl
  have f3 := hfr3 0
  have S2 := Kd.R_seg hR1 (q : Int) (by omega) (by omega) (seg := [rp.1]) (j := 0) (okp := fun _ => False) hcl3 hcc3 (Nat.le_refl 1) (x' := rp) rfl (fun _ h => h.elim)
  have hR2 := S2.1
  simp only [show rawKd.sz = 1 from rfl, Nat.mul_one, Nat.add_zero, Int.toNat_natCast] at x1 x2 f1 f2 x3 f3 hR2
  exact ⟨⟨_, x1⟩, f1, ⟨_, x2⟩, f2, ⟨_, x3⟩, f3, hR2⟩
theorem mod_first {k : Nat} {x : List (List Int)} {L : List (List (List Int))} (h : laws_moderate.f k (x :: L) = some true) : x.length ≤ 40 := by
  unfold laws_moderate.f at h
  cases k with
  | zero => simp [laws_moderate.l0] at h
  | succ k =>
    rw [laws_moderate.l0, if_pos (by simp only [List.length_cons]; omega), if_pos (by omega), if_pos (by simp only [List.length_cons]; omega)] at h
    have e : rd_L2 (x :: L) 0 = x := rfl
    rw [e] at h
    by_cases hx : ((x.length : Nat) : Int) > 40
    · rw [if_pos hx] at h; cases h
    · omega
/-- An empty literal is a row of the call's own. -/
theorem raw_nil {w W : World} (hb : Below w.heap.size w W) : rawKd.R 25 (W.alloc (Obj.cells #[] 25)) w.heap.size (fun _ => True) (.slice (some ⟨W.heap.size, 0, none⟩) 0 0) [] :=
  Kd.R_of_own (enc := Subtype.val) (xs := ([] : List Raw)) ⟨rfl, .inr ⟨W.heap.size, 0, #[], rfl, hb.size, blk_new W _, Nat.le_refl _, by decide, rfl, rfl⟩⟩ (fun _ _ => trivial)
end Go.Proofs.YtladpdeneiaaeaaDoor.PShp
