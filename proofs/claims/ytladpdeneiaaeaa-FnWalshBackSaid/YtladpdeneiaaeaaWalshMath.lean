import Derived.Test.YtladpdeneiaaeaaExtWalsh
/-!
The Walsh-Hadamard transform of 256 numbers modulo 255: it is linear, and of the transform it is 256 times, that is once, the list.
-/
namespace Go.Proofs.Ytladpdeneiaaeaa.PAll
open Go Go.RowKit
/-- Congruent modulo 255. -/
def cg (x y : Int) : Prop := (x - y) % 255 = 0
theorem cg.refl (x : Int) : cg x x := by unfold cg; omega
theorem cg.symm {x y : Int} (h : cg x y) : cg y x := by unfold cg at *; omega
theorem cg.trans {x y z : Int} (h : cg x y) (k : cg y z) : cg x z := by unfold cg at *; omega
theorem cg.add {x y u v : Int} (h : cg x y) (k : cg u v) : cg (x + u) (y + v) := by unfold cg at *; omega
theorem cg.sub {x y u v : Int} (h : cg x y) (k : cg u v) : cg (x - u) (y - v) := by unfold cg at *; omega
def comb : Nat → Int → Int → Int → Int → Int
  | 0, a, b, c, d => a + b + (c + d)
  | 1, a, b, c, d => a - b + (c - d)
  | 2, a, b, c, d => a + b - (c + d)
  | _, a, b, c, d => a - b - (c - d)
theorem comb_cg (n : Nat) {a b c d a' b' c' d' : Int} (h1 : cg a a') (h2 : cg b b') (h3 : cg c c') (h4 : cg d d') : cg (comb n a b c d) (comb n a' b' c' d') := by
  match n with
  | 0 => exact (h1.add h2).add (h3.add h4)
  | 1 => exact (h1.sub h2).add (h3.sub h4)
  | 2 => exact (h1.add h2).sub (h3.add h4)
  | _ + 3 => exact (h1.sub h2).sub (h3.sub h4)
theorem comb_add (n : Nat) (a b c d a' b' c' d' : Int) : comb n (a + a') (b + b') (c + c') (d + d') = comb n a b c d + comb n a' b' c' d' := by
  match n with
  | 0 => simp only [comb]; omega
  | 1 => simp only [comb]; omega
  | 2 => simp only [comb]; omega
  | _ + 3 => simp only [comb]; omega
theorem comb_comb (n m : Nat) (a b c d a1 b1 c1 d1 a2 b2 c2 d2 a3 b3 c3 d3 : Int) :
    comb n (comb m a b c d) (comb m a1 b1 c1 d1) (comb m a2 b2 c2 d2) (comb m a3 b3 c3 d3) = comb m (comb n a a1 a2 a3) (comb n b b1 b2 b3) (comb n c c1 c2 c3) (comb n d d1 d2 d3) := by
  match n, m with
  | 0, 0 => simp only [comb]; omega
  | 0, 1 => simp only [comb]; omega
  | 0, 2 => simp only [comb]; omega
  | 0, _ + 3 => simp only [comb]; omega
  | 1, 0 => simp only [comb]; omega
  | 1, 1 => simp only [comb]; omega
  | 1, 2 => simp only [comb]; omega
  | 1, _ + 3 => simp only [comb]; omega
  | 2, 0 => simp only [comb]; omega
  | 2, 1 => simp only [comb]; omega
  | 2, 2 => simp only [comb]; omega
  | 2, _ + 3 => simp only [comb]; omega
  | _ + 3, 0 => simp only [comb]; omega
  | _ + 3, 1 => simp only [comb]; omega
  | _ + 3, 2 => simp only [comb]; omega
  | _ + 3, _ + 3 => simp only [comb]; omega
theorem comb_self (n : Nat) (hn : n < 4) (f : Nat → Int) :
    comb n (comb 0 (f 0) (f 1) (f 2) (f 3)) (comb 1 (f 0) (f 1) (f 2) (f 3)) (comb 2 (f 0) (f 1) (f 2) (f 3)) (comb 3 (f 0) (f 1) (f 2) (f 3)) = 4 * f n := by
  match n, hn with
  | 0, _ => simp only [comb]; omega
  | 1, _ => simp only [comb]; omega
  | 2, _ => simp only [comb]; omega
  | 3, _ => simp only [comb]; omega
theorem ad_cg {a b : Int} (ha : 0 ≤ a ∧ a ≤ 255) (hb : 0 ≤ b ∧ b ≤ 255) : cg (ad a b) (a + b) := by
  have e : ∀ x : Int, IntKind.u64.wrap x = x % 18446744073709551616 := fun x => by simp [IntKind.wrap, IntKind.bits, IntKind.signed]
  unfold ad cg
  rw [e a, e b, Int.emod_eq_of_lt (a := a) (by omega) (by omega), Int.emod_eq_of_lt (a := b) (by omega) (by omega), e (a + b), Int.emod_eq_of_lt (a := a + b) (by omega) (by omega), e, Int.emod_eq_of_lt (a := a + b + (a + b) / 256) (by omega) (by omega)]
  by_cases h : a + b < 256
  · have e1 : (a + b) / 256 = 0 := by omega
    rw [e1]; omega
  · have e1 : (a + b) / 256 = 1 := by omega
    rw [e1]; omega
theorem sb_cg {a b : Int} (ha : 0 ≤ a ∧ a ≤ 255) (hb : 0 ≤ b ∧ b ≤ 255) : cg (sb a b) (a - b) := by
  have e : ∀ x : Int, IntKind.u64.wrap x = x % 18446744073709551616 := fun x => by simp [IntKind.wrap, IntKind.bits, IntKind.signed]
  unfold sb cg
  rw [e a, e b, Int.emod_eq_of_lt (a := a) (by omega) (by omega), Int.emod_eq_of_lt (a := b) (by omega) (by omega), e (a - b)]
  by_cases h : b ≤ a
  · rw [Int.emod_eq_of_lt (a := a - b) (by omega) (by omega), e, Int.emod_eq_of_lt (a := a - b + (a - b) / 256) (by omega) (by omega)]
    omega
  · have e1 : (a - b) % 18446744073709551616 = a - b + 18446744073709551616 := by omega
    rw [e1, e]
    omega
theorem at_set {l : List Int} {i : Nat} (hi : i < l.length) (x : Int) (j : Nat) : at_ (l.set i x) j = if i = j then x else at_ l j := by
  unfold at_
  rw [List.getD_eq_getElem?_getD, List.getElem?_set, List.getD_eq_getElem?_getD]
  by_cases h : i = j
  · subst h; rw [if_pos rfl, if_pos hi, if_pos rfl]; rfl
  · rw [if_neg h, if_neg h]
theorem bf_at {d o : Nat} {l : List Int} (hl : Bs l) (hd : 1 ≤ d) (ho : o + d * 3 < 256) :
    (∀ c, c < 4 → cg (at_ (bf d o l) (o + d * c)) (comb c (at_ l o) (at_ l (o + d)) (at_ l (o + d * 2)) (at_ l (o + d * 3)))) ∧
    ∀ i, i ≠ o → i ≠ o + d → i ≠ o + d * 2 → i ≠ o + d * 3 → at_ (bf d o l) i = at_ l i := by
  have e : ∀ i, at_ (bf d o l) i = if o + d * 3 = i then sb (sb (at_ l o) (at_ l (o + d))) (sb (at_ l (o + d * 2)) (at_ l (o + d * 3))) else if o + d * 2 = i then sb (ad (at_ l o) (at_ l (o + d))) (ad (at_ l (o + d * 2)) (at_ l (o + d * 3))) else if o + d = i then ad (sb (at_ l o) (at_ l (o + d))) (sb (at_ l (o + d * 2)) (at_ l (o + d * 3))) else if o = i then ad (ad (at_ l o) (at_ l (o + d))) (ad (at_ l (o + d * 2)) (at_ l (o + d * 3))) else at_ l i := by
    intro i
    have hlen := hl.1
    unfold bf
    rw [at_set (by simp only [List.length_set]; omega), at_set (by simp only [List.length_set]; omega), at_set (by simp only [List.length_set]; omega), at_set (by omega)]
  refine ⟨fun c hc => ?_, fun i h0 h1 h2 h3 => by rw [e, if_neg (by omega), if_neg (by omega), if_neg (by omega), if_neg (by omega)]⟩
  have A := ad_cg (hl.at o) (hl.at (o + d))
  have B := ad_cg (hl.at (o + d * 2)) (hl.at (o + d * 3))
  have C := sb_cg (hl.at o) (hl.at (o + d))
  have D := sb_cg (hl.at (o + d * 2)) (hl.at (o + d * 3))
  match c, hc with
  | 0, _ => rw [e, if_neg (by omega), if_neg (by omega), if_neg (by omega), if_pos (by omega)]; exact (ad_cg (ad_range _ _) (ad_range _ _)).trans (A.add B)
  | 1, _ => rw [e, if_neg (by omega), if_neg (by omega), if_pos (by omega)]; exact (ad_cg (sb_range _ _) (sb_range _ _)).trans (C.add D)
  | 2, _ => rw [e, if_neg (by omega), if_pos (by omega)]; exact (sb_cg (ad_range _ _) (ad_range _ _)).trans (A.sub B)
  | 3, _ => rw [e, if_pos (by omega)]; exact (sb_cg (sb_range _ _) (sb_range _ _)).trans (C.sub D)
theorem inner_at {d : Nat} (hd : 1 ≤ d) {r : Nat} (hr : r + 4 * d ≤ 256) : ∀ (n o : Nat) (l : List Int), Bs l → r ≤ o → o + n ≤ r + d →
    (∀ k, o ≤ k → k < o + n → ∀ c, c < 4 → cg (at_ (inner d n o l) (k + d * c)) (comb c (at_ l k) (at_ l (k + d)) (at_ l (k + d * 2)) (at_ l (k + d * 3)))) ∧
    (∀ i, (∀ k, o ≤ k → k < o + n → i ≠ k ∧ i ≠ k + d ∧ i ≠ k + d * 2 ∧ i ≠ k + d * 3) → at_ (inner d n o l) i = at_ l i) ∧ Bs (inner d n o l) := by
  intro n
  induction n with
  | zero => exact fun o l hl _ _ => ⟨fun k h1 h2 => absurd h2 (by omega), fun i _ => rfl, hl⟩
  | succ n ih =>
    intro o l hl h1 h2
    obtain ⟨b1, b2⟩ := bf_at (d := d) (o := o) hl hd (by omega)
    obtain ⟨i1, i2, i3⟩ := ih (o + 1) (bf d o l) (hl.bf d o) (by omega) (by omega)
    refine ⟨fun k hk1 hk2 c hc => ?_, fun i hi => ?_, i3⟩
    · show cg (at_ (inner d n (o + 1) (bf d o l)) (k + d * c)) _
      by_cases e : k = o
      · subst e
        rw [i2 (k + d * c) (fun j hj1 hj2 => by
          have : c = 0 ∨ c = 1 ∨ c = 2 ∨ c = 3 := by omega
          rcases this with rfl | rfl | rfl | rfl <;> omega)]
        exact b1 c hc
      · have h := i1 k (by omega) (by omega) c hc
        rw [b2 k (by omega) (by omega) (by omega) (by omega), b2 (k + d) (by omega) (by omega) (by omega) (by omega), b2 (k + d * 2) (by omega) (by omega) (by omega) (by omega), b2 (k + d * 3) (by omega) (by omega) (by omega) (by omega)] at h
        exact h
    · show at_ (inner d n (o + 1) (bf d o l)) i = _
      rw [i2 i (fun k hk1 hk2 => hi k (by omega) (by omega))]
      obtain ⟨j0, j1, j2, j3⟩ := hi o (by omega) (by omega)
      exact b2 i j0 j1 j2 j3
theorem blocks_at {d : Nat} (hd : 1 ≤ d) : ∀ (q r : Nat) (l : List Int), Bs l → r + 4 * d * q ≤ 256 →
    (∀ b, b < q → ∀ k, k < d → ∀ c, c < 4 → cg (at_ (blocks d q r l) (r + 4 * d * b + k + d * c)) (comb c (at_ l (r + 4 * d * b + k)) (at_ l (r + 4 * d * b + k + d)) (at_ l (r + 4 * d * b + k + d * 2)) (at_ l (r + 4 * d * b + k + d * 3)))) ∧
    (∀ i, i < r → at_ (blocks d q r l) i = at_ l i) ∧ Bs (blocks d q r l) := by
  intro q
  induction q with
  | zero => exact fun r l hl _ => ⟨fun b hb => absurd hb (by omega), fun i _ => rfl, hl⟩
  | succ q ih =>
    intro r l hl h
    rw [Nat.mul_succ] at h
    obtain ⟨n1, n2, n3⟩ := inner_at hd (r := r) (by omega) d r l hl (Nat.le_refl _) (Nat.le_refl _)
    obtain ⟨i1, i2, i3⟩ := ih (r + 4 * d) (inner d d r l) n3 (by omega)
    refine ⟨fun b hb k hk c hc => ?_, fun i hi => ?_, i3⟩
    · show cg (at_ (blocks d q (r + 4 * d) (inner d d r l)) _) _
      match b with
      | 0 =>
        rw [Nat.mul_zero, Nat.add_zero]
        rw [i2 (r + k + d * c) (by
          have : c = 0 ∨ c = 1 ∨ c = 2 ∨ c = 3 := by omega
          rcases this with rfl | rfl | rfl | rfl <;> omega)]
        exact n1 (r + k) (by omega) (by omega) c hc
      | b + 1 =>
        have h2 := i1 b (by omega) k hk c hc
        rw [Nat.mul_succ]
        generalize 4 * d * b = s at h2 ⊢
        rw [show r + (s + 4 * d) + k = r + 4 * d + s + k by omega]
        rw [n2 (r + 4 * d + s + k) (fun j _ _ => by omega), n2 (r + 4 * d + s + k + d) (fun j _ _ => by omega), n2 (r + 4 * d + s + k + d * 2) (fun j _ _ => by omega), n2 (r + 4 * d + s + k + d * 3) (fun j _ _ => by omega)] at h2
        exact h2
    · show at_ (blocks d q (r + 4 * d) (inner d d r l)) i = _
      rw [i2 i (by omega)]
      exact n2 i (fun k _ _ => by omega)
abbrev Tb : Type := Nat → Nat → Nat → Nat → Int
def ix (a b c e : Nat) : Nat := a + 4 * b + 16 * c + 64 * e
def Dg (l : List Int) (T : Tb) : Prop := ∀ a b c e, a < 4 → b < 4 → c < 4 → e < 4 → cg (at_ l (ix a b c e)) (T a b c e)
def tab (l : List Int) : Tb := fun a b c e => at_ l (ix a b c e)
def F1 (T : Tb) : Tb := fun a b c e => comb a (T 0 b c e) (T 1 b c e) (T 2 b c e) (T 3 b c e)
def F2 (T : Tb) : Tb := fun a b c e => comb b (T a 0 c e) (T a 1 c e) (T a 2 c e) (T a 3 c e)
def F3 (T : Tb) : Tb := fun a b c e => comb c (T a b 0 e) (T a b 1 e) (T a b 2 e) (T a b 3 e)
def F4 (T : Tb) : Tb := fun a b c e => comb e (T a b c 0) (T a b c 1) (T a b c 2) (T a b c 3)
theorem F12 (T : Tb) : F1 (F2 T) = F2 (F1 T) := by funext a b c e; exact comb_comb a b _ _ _ _ _ _ _ _ _ _ _ _ _ _ _ _
theorem F13 (T : Tb) : F1 (F3 T) = F3 (F1 T) := by funext a b c e; exact comb_comb a c _ _ _ _ _ _ _ _ _ _ _ _ _ _ _ _
theorem F14 (T : Tb) : F1 (F4 T) = F4 (F1 T) := by funext a b c e; exact comb_comb a e _ _ _ _ _ _ _ _ _ _ _ _ _ _ _ _
theorem F23 (T : Tb) : F2 (F3 T) = F3 (F2 T) := by funext a b c e; exact comb_comb b c _ _ _ _ _ _ _ _ _ _ _ _ _ _ _ _
theorem F24 (T : Tb) : F2 (F4 T) = F4 (F2 T) := by funext a b c e; exact comb_comb b e _ _ _ _ _ _ _ _ _ _ _ _ _ _ _ _
theorem F34 (T : Tb) : F3 (F4 T) = F4 (F3 T) := by funext a b c e; exact comb_comb c e _ _ _ _ _ _ _ _ _ _ _ _ _ _ _ _
/-- The transform of a table. -/
def WT (T : Tb) : Tb := F4 (F3 (F2 (F1 T)))
theorem WT_add (T S : Tb) : WT (fun a b c e => T a b c e + S a b c e) = fun a b c e => WT T a b c e + WT S a b c e := by
  have h1 : ∀ T S : Tb, F1 (fun a b c e => T a b c e + S a b c e) = fun a b c e => F1 T a b c e + F1 S a b c e := fun T S => by funext a b c e; exact comb_add _ _ _ _ _ _ _ _ _
  have h2 : ∀ T S : Tb, F2 (fun a b c e => T a b c e + S a b c e) = fun a b c e => F2 T a b c e + F2 S a b c e := fun T S => by funext a b c e; exact comb_add _ _ _ _ _ _ _ _ _
  have h3 : ∀ T S : Tb, F3 (fun a b c e => T a b c e + S a b c e) = fun a b c e => F3 T a b c e + F3 S a b c e := fun T S => by funext a b c e; exact comb_add _ _ _ _ _ _ _ _ _
  have h4 : ∀ T S : Tb, F4 (fun a b c e => T a b c e + S a b c e) = fun a b c e => F4 T a b c e + F4 S a b c e := fun T S => by funext a b c e; exact comb_add _ _ _ _ _ _ _ _ _
  unfold WT
  rw [h1, h2, h3, h4]
/-- Two tables agree modulo 255 at all places. -/
def Cg (T S : Tb) : Prop := ∀ a b c e, a < 4 → b < 4 → c < 4 → e < 4 → cg (T a b c e) (S a b c e)
theorem Cg.f1 {T S : Tb} (h : Cg T S) : Cg (F1 T) (F1 S) := fun a b c e _ hb hc he => comb_cg a (h 0 b c e (by decide) hb hc he) (h 1 b c e (by decide) hb hc he) (h 2 b c e (by decide) hb hc he) (h 3 b c e (by decide) hb hc he)
theorem Cg.f2 {T S : Tb} (h : Cg T S) : Cg (F2 T) (F2 S) := fun a b c e ha _ hc he => comb_cg b (h a 0 c e ha (by decide) hc he) (h a 1 c e ha (by decide) hc he) (h a 2 c e ha (by decide) hc he) (h a 3 c e ha (by decide) hc he)
theorem Cg.f3 {T S : Tb} (h : Cg T S) : Cg (F3 T) (F3 S) := fun a b c e ha hb _ he => comb_cg c (h a b 0 e ha hb (by decide) he) (h a b 1 e ha hb (by decide) he) (h a b 2 e ha hb (by decide) he) (h a b 3 e ha hb (by decide) he)
theorem Cg.f4 {T S : Tb} (h : Cg T S) : Cg (F4 T) (F4 S) := fun a b c e ha hb hc _ => comb_cg e (h a b c 0 ha hb hc (by decide)) (h a b c 1 ha hb hc (by decide)) (h a b c 2 ha hb hc (by decide)) (h a b c 3 ha hb hc (by decide))
theorem Cg.wt {T S : Tb} (h : Cg T S) : Cg (WT T) (WT S) := h.f1.f2.f3.f4
theorem Cg.trans {T S R : Tb} (h : Cg T S) (k : Cg S R) : Cg T R := fun a b c e ha hb hc he => (h a b c e ha hb hc he).trans (k a b c e ha hb hc he)
theorem WT_WT {T : Tb} {a b c e : Nat} (ha : a < 4) (hb : b < 4) (hc : c < 4) (he : e < 4) : WT (WT T) a b c e = 256 * T a b c e := by
  have ew : WT (WT T) = F4 (F4 (F3 (F3 (F2 (F2 (F1 (F1 T))))))) := by
    unfold WT
    rw [F14, F24, F34, F13, F23, F12]
  rw [ew]
  have q4 : ∀ (T : Tb), F4 (F4 T) a b c e = 4 * T a b c e := fun T => comb_self _ he (T a b c)
  have q3 : ∀ (T : Tb), F3 (F3 T) a b c e = 4 * T a b c e := fun T => comb_self _ hc (fun c => T a b c e)
  have q2 : ∀ (T : Tb), F2 (F2 T) a b c e = 4 * T a b c e := fun T => comb_self _ hb (fun b => T a b c e)
  have q1 : ∀ (T : Tb), F1 (F1 T) a b c e = 4 * T a b c e := fun T => comb_self _ ha (fun a => T a b c e)
  rw [q4, q3, q2, q1]
  omega
theorem level1 {l : List Int} (hl : Bs l) : Cg (tab (blocks 1 64 0 l)) (F1 (tab l)) := fun a b c e ha hb hc he => by
  have h := (blocks_at (d := 1) (by decide) 64 0 l hl (by decide)).1 (b + 4 * c + 16 * e) (by omega) 0 (by decide) a ha
  show cg (at_ (blocks 1 64 0 l) (a + 4 * b + 16 * c + 64 * e)) (comb a (at_ l (0 + 4 * b + 16 * c + 64 * e)) (at_ l (1 + 4 * b + 16 * c + 64 * e)) (at_ l (2 + 4 * b + 16 * c + 64 * e)) (at_ l (3 + 4 * b + 16 * c + 64 * e)))
  rw [show 0 + 4 * 1 * (b + 4 * c + 16 * e) + 0 = 4 * b + 16 * c + 64 * e by omega] at h
  rw [show a + 4 * b + 16 * c + 64 * e = 4 * b + 16 * c + 64 * e + 1 * a by omega, show 0 + 4 * b + 16 * c + 64 * e = 4 * b + 16 * c + 64 * e by omega, show 1 + 4 * b + 16 * c + 64 * e = 4 * b + 16 * c + 64 * e + 1 by omega, show 2 + 4 * b + 16 * c + 64 * e = 4 * b + 16 * c + 64 * e + 1 * 2 by omega, show 3 + 4 * b + 16 * c + 64 * e = 4 * b + 16 * c + 64 * e + 1 * 3 by omega]
  exact h
theorem level2 {l : List Int} (hl : Bs l) : Cg (tab (blocks 4 16 0 l)) (F2 (tab l)) := fun a b c e ha hb hc he => by
  have h := (blocks_at (d := 4) (by decide) 16 0 l hl (by decide)).1 (c + 4 * e) (by omega) a ha b hb
  show cg (at_ (blocks 4 16 0 l) (a + 4 * b + 16 * c + 64 * e)) (comb b (at_ l (a + 4 * 0 + 16 * c + 64 * e)) (at_ l (a + 4 * 1 + 16 * c + 64 * e)) (at_ l (a + 4 * 2 + 16 * c + 64 * e)) (at_ l (a + 4 * 3 + 16 * c + 64 * e)))
  rw [show 0 + 4 * 4 * (c + 4 * e) + a = a + 16 * c + 64 * e by omega] at h
  rw [show a + 4 * b + 16 * c + 64 * e = a + 16 * c + 64 * e + 4 * b by omega, show a + 4 * 0 + 16 * c + 64 * e = a + 16 * c + 64 * e by omega, show a + 4 * 1 + 16 * c + 64 * e = a + 16 * c + 64 * e + 4 by omega, show a + 4 * 2 + 16 * c + 64 * e = a + 16 * c + 64 * e + 4 * 2 by omega, show a + 4 * 3 + 16 * c + 64 * e = a + 16 * c + 64 * e + 4 * 3 by omega]
  exact h
theorem level3 {l : List Int} (hl : Bs l) : Cg (tab (blocks 16 4 0 l)) (F3 (tab l)) := fun a b c e ha hb hc he => by
  have h := (blocks_at (d := 16) (by decide) 4 0 l hl (by decide)).1 e he (a + 4 * b) (by omega) c hc
  show cg (at_ (blocks 16 4 0 l) (a + 4 * b + 16 * c + 64 * e)) (comb c (at_ l (a + 4 * b + 16 * 0 + 64 * e)) (at_ l (a + 4 * b + 16 * 1 + 64 * e)) (at_ l (a + 4 * b + 16 * 2 + 64 * e)) (at_ l (a + 4 * b + 16 * 3 + 64 * e)))
  rw [show 0 + 4 * 16 * e + (a + 4 * b) = a + 4 * b + 64 * e by omega] at h
  rw [show a + 4 * b + 16 * c + 64 * e = a + 4 * b + 64 * e + 16 * c by omega, show a + 4 * b + 16 * 0 + 64 * e = a + 4 * b + 64 * e by omega, show a + 4 * b + 16 * 1 + 64 * e = a + 4 * b + 64 * e + 16 by omega, show a + 4 * b + 16 * 2 + 64 * e = a + 4 * b + 64 * e + 16 * 2 by omega, show a + 4 * b + 16 * 3 + 64 * e = a + 4 * b + 64 * e + 16 * 3 by omega]
  exact h
theorem level4 {l : List Int} (hl : Bs l) : Cg (tab (blocks 64 1 0 l)) (F4 (tab l)) := fun a b c e ha hb hc he => by
  have h := (blocks_at (d := 64) (by decide) 1 0 l hl (by decide)).1 0 (by decide) (a + 4 * b + 16 * c) (by omega) e he
  show cg (at_ (blocks 64 1 0 l) (a + 4 * b + 16 * c + 64 * e)) (comb e (at_ l (a + 4 * b + 16 * c + 64 * 0)) (at_ l (a + 4 * b + 16 * c + 64 * 1)) (at_ l (a + 4 * b + 16 * c + 64 * 2)) (at_ l (a + 4 * b + 16 * c + 64 * 3)))
  rw [show 0 + 4 * 64 * 0 + (a + 4 * b + 16 * c) = a + 4 * b + 16 * c by omega] at h
  exact h
theorem Bs.wht {l : List Int} (hl : Bs l) : Bs (wht l) := by
  have b1 := (blocks_at (d := 1) (by decide) 64 0 l hl (by decide)).2.2
  have b2 := (blocks_at (d := 4) (by decide) 16 0 _ b1 (by decide)).2.2
  have b3 := (blocks_at (d := 16) (by decide) 4 0 _ b2 (by decide)).2.2
  exact (blocks_at (d := 64) (by decide) 1 0 _ b3 (by decide)).2.2
theorem wht_tab {l : List Int} (hl : Bs l) : Cg (tab (wht l)) (WT (tab l)) := by
  have b1 := (blocks_at (d := 1) (by decide) 64 0 l hl (by decide)).2.2
  have b2 := (blocks_at (d := 4) (by decide) 16 0 _ b1 (by decide)).2.2
  have b3 := (blocks_at (d := 16) (by decide) 4 0 _ b2 (by decide)).2.2
  have e : wht l = blocks 64 1 0 (blocks 16 4 0 (blocks 4 16 0 (blocks 1 64 0 l))) := rfl
  rw [e]
  exact (level4 b3).trans ((level3 b2).trans ((level2 b1).trans (level1 hl).f2).f3).f4
theorem place (i : Nat) (hi : i < 256) : ∃ a b c e, a < 4 ∧ b < 4 ∧ c < 4 ∧ e < 4 ∧ i = ix a b c e :=
  ⟨i % 4, i / 4 % 4, i / 16 % 4, i / 64, by omega, by omega, by omega, by omega, by unfold ix; omega⟩
/-- The transform of the transform is the list itself, modulo 255. -/
theorem wht_back {l : List Int} (hl : Bs l) (i : Nat) (hi : i < 256) : cg (at_ (wht (wht l)) i) (at_ l i) := by
  obtain ⟨a, b, c, e, ha, hb, hc, he, rfl⟩ := place i hi
  have h : Cg (tab (wht (wht l))) (WT (WT (tab l))) := (wht_tab hl.wht).trans (wht_tab hl).wt
  have h2 := h a b c e ha hb hc he
  rw [WT_WT ha hb hc he] at h2
  unfold tab at h2
  unfold cg at *
  omega
/-- The transform of a sum is the sum of the transforms, modulo 255. -/
theorem wht_sum {l m s : List Int} (hl : Bs l) (hm : Bs m) (hs : Bs s) (h : ∀ i, i < 256 → cg (at_ s i) (at_ l i + at_ m i)) (i : Nat) (hi : i < 256) : cg (at_ (wht s) i) (at_ (wht l) i + at_ (wht m) i) := by
  obtain ⟨a, b, c, e, ha, hb, hc, he, rfl⟩ := place i hi
  have h1 : Cg (tab s) (fun a b c e => tab l a b c e + tab m a b c e) := fun a b c e _ _ _ _ => h _ (by unfold ix; omega)
  have h2 := ((wht_tab hs).trans h1.wt) a b c e ha hb hc he
  rw [WT_add] at h2
  exact h2.trans (cg.add ((wht_tab hl) a b c e ha hb hc he).symm ((wht_tab hm) a b c e ha hb hc he).symm)
end Go.Proofs.Ytladpdeneiaaeaa.PAll
