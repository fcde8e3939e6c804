-- Written by a program of this session (wip/tools)
import Derived.Test.YtielnphmcaecdaaDoorQRLPAllx0
import Derived.Test.YtielnphmcaecdaaDoorQRLPAllx4
import Derived.Outline
import Derived.Deep.QuietTactic
import Derived.BigQuiet
import Derived.Deep.RegionWith
import Derived.Deep.RegionLaw
import Derived.Deep.RegionHeldLaw
import Derived.IntWalk
import Derived.Test.YtielnphmcaecdaaDoorQRLV0
import Derived.Laws.BitsAllLaws
import Derived.Test.YtielnphmcaecdaaDoorQRLPAllx2
namespace Go.Proofs.YtielnphmcaecdaaDoor.PAll
open Go.RowKit Go.Proofs.YtielnphmcaecdaaDoorW.PrintWords Go.Proofs.YtielnphmcaecdaaDoorW.PrintLast Go.Proofs.YtielnphmcaecdaaDoorW.PrintMore
set_option linter.unusedVariables false
abbrev SH : Type := Option Addr × Nat × Nat
abbrev shE (s : SH) : Value := .slice s.1 s.2.1 s.2.2
def kSH : Kd SH := Kd.scalar shE (fun _ => rfl)
def by5 (w : World) (k : Nat) : Prop := ∃ cells, w.heap[k]? = some (.cells cells 5 (0, 0))
def Pres5 (w w' : World) : Prop := ∀ k, by5 w k → w'.heap[k]? = w.heap[k]?
theorem Pres5.refl (w : World) : Pres5 w w := fun _ _ => rfl
theorem Pres5.by {w w' : World} (h : Pres5 w w') {k : Nat} (hk : by5 w k) : by5 w' k := by
  obtain ⟨c, hc⟩ := hk
  exact ⟨c, (h k ⟨c, hc⟩).trans hc⟩
theorem Pres5.trans {a b c : World} (h : Pres5 a b) (g : Pres5 b c) : Pres5 a c := fun k hk => (g k (h.by hk)).trans (h k hk)
theorem by5_lt {w : World} {k : Nat} (h : by5 w k) : k < w.heap.size := by
  obtain ⟨c, hc⟩ := h
  exact (Array.getElem?_eq_some_iff.1 hc).1
theorem Pres5.below {w w' : World} (h : Below w.heap.size w w') : Pres5 w w' := fun k hk => h.block k (by5_lt hk)
theorem Pres5.grown {w w' : World} {row : Option Nat} (hg : w.grownBy w' row) (ht : ∀ k, row = some k → ∃ cells t, t ≠ 5 ∧ w.heap[k]? = some (.cells cells t (0, 0))) : Pres5 w w' := fun k hk => by
  refine hg.block k (by5_lt hk) (fun e => ?_)
  obtain ⟨c, t, h5, hc⟩ := ht k e.symm
  obtain ⟨c', hc'⟩ := hk
  rw [hc] at hc'
  injection hc' with hc'
  injection hc' with _ hc'
  exact h5 hc'
theorem Pres5.set {w : World} {g t : Nat} {cells : Array Value} (hb : w.heap[g]? = some (.cells cells t (0, 0))) (h5 : t ≠ 5) (j : Nat) (u : Value) : Pres5 w (w.setCell ⟨g, j, none⟩ u) := fun k hk => by
  refine Below.heap_setCell w ⟨g, j, none⟩ u k ?_
  rintro rfl
  obtain ⟨c', hc'⟩ := hk
  rw [hb] at hc'
  injection hc' with hc'
  injection hc' with _ hc'
  exact h5 hc'
def Txt (base : Nat) (w : World) (s : SH) (b : List Int) : Prop := Kd.R (Kd.int .u8) 5 w base (fun _ => True) (shE s) b
theorem Txt.pres {base : Nat} {w w' : World} {s : SH} {b : List Int} (h : Txt base w s b) (hp : Pres5 w w') : Txt base w' s b :=
  Kd.R_mono (Kd.R_step (Kd.R_tight rfl h) (fun k hk _ => hp k (Kd.R_typed h k hk.symm))) (fun _ _ => trivial)
theorem Txt.read {base : Nat} {w : World} {A : Option Addr} {n c : Nat} {b : List Int} (h : Txt base w (A, n, c) b) : n = b.length ∧ b.length ≤ c ∧ Kd.C (Kd.int .u8) w A b.length b := by
  obtain ⟨h1, h2, h3⟩ := Kd.R_reads' h
  have h1 : n = b.length := h1
  have h2 : n ≤ c := h2
  exact ⟨h1, by omega, h3⟩
theorem Txt.of_R {base B : Nat} {w : World} {ok : Nat → Prop} {s : SH} {b : List Int} (h : Kd.R (Kd.int .u8) 5 w B ok (shE s) b) (hle : base ≤ B) : Txt base w s b := Kd.R_mono (Kd.R_lower h hle) (fun _ _ => trivial)
structure Frm (base g : Nat) (w w' : World) : Prop where
  os : w'.os = w.os
  tape : w'.tape = w.tape
  output : w'.output = w.output
  size : w.heap.size ≤ w'.heap.size
  block : ∀ k, k < base → k ≠ g → w'.heap[k]? = w.heap[k]?
theorem Frm.refl (base g : Nat) (w : World) : Frm base g w w := ⟨rfl, rfl, rfl, Nat.le_refl _, fun _ _ _ => rfl⟩
theorem Frm.trans {base g : Nat} {a b c : World} (h : Frm base g a b) (k : Frm base g b c) : Frm base g a c :=
  ⟨k.os.trans h.os, k.tape.trans h.tape, k.output.trans h.output, Nat.le_trans h.size k.size, fun i hi hg => (k.block i hi hg).trans (h.block i hi hg)⟩
theorem Frm.of {base g : Nat} {a b : World} (h : Below base a b) : Frm base g a b := ⟨h.os, h.tape, h.output, h.size, fun k hk _ => h.block k hk⟩
theorem Frm.set {base g : Nat} {a b : World} (h : Frm base g a b) {q : Nat} (hq : base ≤ q ∨ q = g) (j : Nat) (u : Value) : Frm base g a (b.setCell ⟨q, j, none⟩ u) :=
  h.trans ⟨rfl, rfl, rfl, by rw [World.size_setCell]; exact Nat.le_refl _, fun k hk hg => Below.heap_setCell b ⟨q, j, none⟩ u k (by show k ≠ q; omega)⟩
theorem Frm.below {base g B : Nat} {a b : World} (h : Frm base g a b) (h1 : B ≤ base) (h2 : B ≤ g) : Below B a b := ⟨h.os, h.tape, h.output, h.size, fun k hk => h.block k (by omega) (by omega)⟩
abbrev Rw (w : World) (base : Nat) (v : Value) (rs : List SH) : Prop := kSH.R 27 w base (fun _ => True) v rs
structure TreeAt (w : World) (tb base g : Nat) (hv : Value) (n : Int) (H : SH) (hs : List SH) (rows : List (List SH)) (val : Nat → Nat → List Int) : Prop where
  cell : w.heap[g]? = some (.cells #[hv, .int .u64 n, shE H] 137 (0, 0))
  outer : kSH.R 25 w base (fun _ => True) (shE H) hs
  len : rows.length = hs.length
  row : ∀ (i : Nat) (h : SH), hs[i]? = some h → ∃ rs, rows[i]? = some rs ∧ Rw w base (shE h) rs
  apart : ∀ (i j : Nat) (h h' : SH) (b : Nat), hs[i]? = some h → hs[j]? = some h' → (shE h).ownBlock = some b → (shE h').ownBlock = some b → i = j
  txt : ∀ (i j : Nat) (rs : List SH) (s : SH), rows[i]? = some rs → rs[j]? = some s → Txt tb w s (val i j)
section
variable {w w' W w1 w2 : World} {tb base g : Nat} {hv : Value} {n : Int} {H h h1 s : SH} {hs : List SH} {rows : List (List SH)} {rs : List SH} {val : Nat → Nat → List Int} {ℓ : Nat}
theorem blk_other {w : World} {a b t u : Nat} {c d : Array Value} (ha : w.heap[a]? = some (.cells c t (0, 0))) (hb : w.heap[b]? = some (.cells d u (0, 0))) (h : t ≠ u) : a ≠ b := by
  rintro rfl
  rw [ha] at hb
  injection hb with hb
  injection hb with _ hb
  exact h hb
theorem TreeAt.below (T : TreeAt w tb base g hv n H hs rows val) (hb : Below w.heap.size w w') : TreeAt w' tb base g hv n H hs rows val where
  cell := (hb.block g (Array.getElem?_eq_some_iff.1 T.cell).1).trans T.cell
  outer := Kd.R_below T.outer hb
  len := T.len
  row := fun i h hi => by
    obtain ⟨rs, h1, h2⟩ := T.row i h hi
    exact ⟨rs, h1, Kd.R_below h2 hb⟩
  apart := T.apart
  txt := fun i j rs s h1 h2 => (T.txt i j rs s h1 h2).pres (Pres5.below hb)
theorem TreeAt.put (T : TreeAt W tb base g hv n H hs rows val) {gH : Nat} (eH : (shE H).ownBlock = some gH) (hi : hs[ℓ]? = some h) (hr : rows[ℓ]? = some rs) (hR : Rw w1 base (shE h1) (rs ++ [s])) (hg : W.grownBy w1 (shE h).ownBlock)
    (hat : (shE h1).ownBlock = (shE h).ownBlock ∨ ∃ b, (shE h1).ownBlock = some b ∧ W.heap.size ≤ b) (hb : Below w1.heap.size w1 w2) (hT : Txt tb W s (val ℓ rs.length)) :
    TreeAt (w2.setCell ⟨gH, ℓ, none⟩ (shE h1)) tb base g hv n H (hs.set ℓ h1) (rows.set ℓ (rs ++ [s])) val ∧ Pres5 W (w2.setCell ⟨gH, ℓ, none⟩ (shE h1)) := by
  obtain ⟨rs0, hr0, hRow⟩ := T.row ℓ h hi
  obtain rfl := Option.some.inj (hr0.symm.trans hr)
  have hlt : ℓ < hs.length := (List.getElem?_eq_some_iff.1 hi).1
  have hty := Kd.R_typed hRow
  have htH := Kd.R_typed T.outer gH eH
  -- to w1
  have p1 : Pres5 W w1 := Pres5.grown hg (fun k e => by obtain ⟨c, hc⟩ := hty k e; exact ⟨c, 27, by decide, hc⟩)
  have p2 : Pres5 w1 w2 := Pres5.below hb
  have hgne : ∀ k, (shE h).ownBlock = some k → g ≠ k := fun k e => by obtain ⟨c, hc⟩ := hty k e; exact blk_other T.cell hc (by decide)
  have c1 : w1.heap[g]? = some (.cells #[hv, .int .u64 n, shE H] 137 (0, 0)) := (hg.block g (Array.getElem?_eq_some_iff.1 T.cell).1 (fun e => hgne g e.symm rfl)).trans T.cell
  have o1 : kSH.R 25 w1 base (fun _ => True) (shE H) hs := Kd.R_over' T.outer hty (by decide) hg
  have c2 : w2.heap[g]? = some (.cells #[hv, .int .u64 n, shE H] 137 (0, 0)) := (hb.block g (Array.getElem?_eq_some_iff.1 c1).1).trans c1
  have o2 := Kd.R_below o1 hb
  obtain ⟨cH, hcH⟩ := Kd.R_typed o2 gH eH
  have p3 : Pres5 w2 (w2.setCell ⟨gH, ℓ, none⟩ (shE h1)) := Pres5.set hcH (by decide) ℓ (shE h1)
  refine ⟨⟨?_, ?_, ?_, ?_, ?_, ?_⟩, (p1.trans p2).trans p3⟩
  · rw [Below.heap_setCell w2 ⟨gH, ℓ, none⟩ (shE h1) g (blk_other c2 hcH (by decide))]; exact c2
  · obtain ⟨gq, cap, hv', hq1, hq2, hq3⟩ := Kd.R_form o2 (by omega)
    have : gq = gH := by
      rw [hv'] at eH
      exact Option.some.inj eH
    subst this
    rw [hv'] at o2 ⊢
    have := Kd.R_putn (enc := shE) o2 (ℓ : Int) h1
    rw [Int.toNat_natCast] at this
    exact this
  · rw [List.length_set, List.length_set]; exact T.len
  · intro i h' hi'
    by_cases e : i = ℓ
    · subst e
      rw [List.getElem?_set_self hlt] at hi'
      obtain rfl := Option.some.inj hi'
      refine ⟨rs0 ++ [s], List.getElem?_set_self (by rw [T.len]; exact hlt), ?_⟩
      exact Kd.R_set (Kd.R_below hR hb) hcH (by decide) _ _
    · rw [List.getElem?_set_ne (by omega)] at hi'
      obtain ⟨rs', h2, h3⟩ := T.row i h' hi'
      refine ⟨rs', by rw [List.getElem?_set_ne (by omega)]; exact h2, ?_⟩
      have h4 : Rw w1 base (shE h') rs' := Kd.R_mono (Kd.R_grown (Kd.R_tight rfl h3) hg (fun k hk e2 => e (T.apart i ℓ h' h k hi' hi hk.symm e2.symm))) (fun _ _ => trivial)
      exact Kd.R_set (Kd.R_below h4 hb) hcH (by decide) _ _
  · intro i j a b k hia hjb ha hb'
    have key : ∀ (m : Nat) (x : SH), (hs.set ℓ h1)[m]? = some x → m ≠ ℓ → hs[m]? = some x := fun m x hx hm => by rwa [List.getElem?_set_ne (by omega)] at hx
    have self : ∀ x, (hs.set ℓ h1)[ℓ]? = some x → x = h1 := fun x hx => by rw [List.getElem?_set_self hlt] at hx; exact (Option.some.inj hx).symm
    have new : ∀ (m : Nat) (x : SH), m ≠ ℓ → hs[m]? = some x → (shE x).ownBlock = some k → (shE h1).ownBlock = some k → False := fun m x hm hx h5 h6 => by
      obtain ⟨rs', _, h7⟩ := T.row m x hx
      have hl := Kd.R_lt h7 k h5
      rcases hat with e | ⟨b0, e, hle⟩
      · exact hm (T.apart m ℓ x h k hx hi h5 (e ▸ h6))
      · rw [e] at h6
        have := Option.some.inj h6
        omega
    by_cases e1 : i = ℓ
    · by_cases e2 : j = ℓ
      · omega
      · subst e1
        rw [self a hia] at ha
        exact (new j b e2 (key j b hjb e2) hb' ha).elim
    · by_cases e2 : j = ℓ
      · subst e2
        rw [self b hjb] at hb'
        exact (new i a e1 (key i a hia e1) ha hb').elim
      · exact T.apart i j a b k (key i a hia e1) (key j b hjb e2) ha hb'
  · intro i j rs' s' h2 h3
    by_cases e : i = ℓ
    · subst e
      rw [List.getElem?_set_self (by rw [T.len]; exact hlt)] at h2
      obtain rfl := Option.some.inj h2
      by_cases e2 : j < rs0.length
      · rw [List.getElem?_append_left e2] at h3
        exact (T.txt i j rs0 s' hr h3).pres ((p1.trans p2).trans p3)
      · have e3 : j = rs0.length := by
          have := (List.getElem?_eq_some_iff.1 h3).1
          rw [List.length_append, List.length_singleton] at this; omega
        subst e3
        rw [List.getElem?_append_right (Nat.le_refl _), Nat.sub_self] at h3
        obtain rfl := Option.some.inj h3
        exact hT.pres ((p1.trans p2).trans p3)
    · rw [List.getElem?_set_ne (by omega)] at h2
      exact (T.txt i j rs' s' h2 h3).pres ((p1.trans p2).trans p3)
theorem TreeAt.size (T : TreeAt W tb base g hv n H hs rows val) (m : Int) : TreeAt (W.setCell ⟨g, 1, none⟩ (.int .u64 m)) tb base g hv m H hs rows val ∧ Pres5 W (W.setCell ⟨g, 1, none⟩ (.int .u64 m)) := by
  have p3 : Pres5 W (W.setCell ⟨g, 1, none⟩ (.int .u64 m)) := Pres5.set T.cell (by decide) 1 _
  refine ⟨⟨?_, ?_, T.len, ?_, T.apart, ?_⟩, p3⟩
  · rw [blk_set T.cell]; rfl
  · exact Kd.R_set T.outer T.cell (by decide) _ _
  · intro i h' hi'
    obtain ⟨rs', h2, h3⟩ := T.row i h' hi'
    exact ⟨rs', h2, Kd.R_set h3 T.cell (by decide) _ _⟩
  · exact fun i j rs' s' h2 h3 => (T.txt i j rs' s' h2 h3).pres p3
end
abbrev toyV (a0 a1 a2 a3 a4 a5 : Int) : Value := .agg #[.int .i64 a0, .int .i64 a1, .int .i64 a2, .int .u64 a3, .int .u64 a4, .int .u64 a5]
theorem kSH_cell {e : Nat} {W : World} {base g n cap : Nat} {ok : Nat → Prop} {xs : List SH} {x : SH} {i : Nat} (h : kSH.R e W base ok (.slice (some ⟨g, 0, none⟩) n cap) xs) (hi : xs[i]? = some x) : W.cell? ⟨g, i, none⟩ = some (shE x) ∧ W.frozen? ⟨g, i, none⟩ = false := by
  have hl := (List.getElem?_eq_some_iff.1 hi).1
  have hn := (Kd.R_reads' h).1
  have := Kd.R_celln (enc := shE) x h (i : Int) (by omega) (by omega)
  rw [Int.toNat_natCast] at this
  have e : rdOf x xs (i : Int) = x := by
    unfold rdOf
    rw [Int.toNat_natCast, List.getD_eq_getElem?_getD, hi]; rfl
  rw [e] at this
  exact this
theorem kSH_form {e : Nat} {W : World} {base : Nat} {ok : Nat → Prop} {s : SH} {xs : List SH} (h : kSH.R e W base ok (shE s) xs) (h0 : 0 < xs.length) : ∃ g cap, s = (some ⟨g, 0, none⟩, xs.length, cap) ∧ base ≤ g := by
  obtain ⟨g, cap, hv, hq, _⟩ := Kd.R_form h h0
  obtain ⟨A, n, c⟩ := s
  have hv : Value.slice A n c = .slice (some ⟨g, 0, none⟩) xs.length cap := hv
  injection hv with h1 h2 h3
  subst h1 h2 h3
  exact ⟨g, _, rfl, hq⟩
theorem kSH_val' {W : World} {base : Nat} {ok : Nat → Prop} {v : Value} {b : List Int} (h : Kd.R (Kd.int .u8) 5 W base ok v b) : ∃ s, v = shE s := by
  obtain ⟨A, c, rfl⟩ := Kd.R_slice h
  exact ⟨(A, b.length, c), rfl⟩
theorem Txt.at {base : Nat} {w : World} {s : SH} {b b' : List Int} (h : Txt base w s b) (e : b' = b) : Txt base w s b' := by subst e; exact h
theorem TreeAt.c0 {w : World} {tb base g : Nat} {hv : Value} {n : Int} {H : SH} {hs : List SH} {rows : List (List SH)} {val : Nat → Nat → List Int} (T : TreeAt w tb base g hv n H hs rows val) : w.cell? ⟨g, 0, none⟩ = some hv ∧ w.cell? ⟨g, 1, none⟩ = some (.int .u64 n) ∧ w.cell? ⟨g, 2, none⟩ = some (shE H) :=
  ⟨blk_cell T.cell 0, blk_cell T.cell 1, blk_cell T.cell 2⟩
theorem rows_SH {w : World} {B : Nat} {v : Value} {xs : List (List Int)} (h : Kd.R (Kd.slice 5 (Kd.int .u8)) 27 w B (fun _ => True) v xs) : ∃ ss : List SH, ss.length = xs.length ∧ Rw w B v ss ∧ ∀ (j : Nat) (s : SH) (b : List Int), ss[j]? = some s → xs[j]? = some b → Txt B w s b := by
  obtain ⟨_, inner, ho, hl, hr⟩ := h
  rw [show (Kd.slice 5 (Kd.int .u8)).sz = 1 from rfl] at hl hr ho
  rw [Nat.mul_one] at hl
  have hat : ∀ (j : Nat) (b : List Int), xs[j]? = some b → ∃ s : SH, inner[j]? = some (shE s) ∧ Txt B w s b := by
    intro j b hj
    obtain ⟨v', h1, h2⟩ := hr j b hj
    have hlt : j < inner.length := by have := (List.getElem?_eq_some_iff.1 hj).1; omega
    rw [Nat.mul_one, List.drop_eq_getElem_cons hlt, List.take_succ_cons, List.take_zero] at h1
    have h1 : inner[j] = v' := List.head_eq_of_cons_eq h1
    obtain ⟨A, c, e⟩ := Kd.R_slice h2
    subst e
    exact ⟨(A, b.length, c), by rw [List.getElem?_eq_getElem hlt, h1], Kd.R_mono h2 (fun _ _ => trivial)⟩
  have hex : ∀ m, m ≤ xs.length → ∃ ss : List SH, ss.length = m ∧ ∀ (j : Nat) (s : SH), ss[j]? = some s → inner[j]? = some (shE s) ∧ ∀ b, xs[j]? = some b → Txt B w s b := by
    intro m
    induction m with
    | zero => exact fun _ => ⟨[], rfl, fun j s h => by simp at h⟩
    | succ m ih =>
      intro hm
      obtain ⟨ss, h1, h2⟩ := ih (by omega)
      obtain ⟨s, h3, h4⟩ := hat m _ (List.getElem?_eq_getElem (by omega : m < xs.length))
      refine ⟨ss ++ [s], by simp [h1], fun j t ht => ?_⟩
      by_cases e : j < m
      · rw [List.getElem?_append_left (by omega)] at ht
        exact h2 j t ht
      · have e2 : j = m := by
          have := (List.getElem?_eq_some_iff.1 ht).1
          rw [List.length_append, List.length_singleton] at this; omega
        subst e2
        rw [List.getElem?_append_right (by omega), h1, Nat.sub_self] at ht
        obtain rfl := Option.some.inj ht
        exact ⟨h3, fun b hb => by rw [List.getElem?_eq_getElem (by omega : j < xs.length)] at hb; obtain rfl := Option.some.inj hb; exact h4⟩
  obtain ⟨ss, h1, h2⟩ := hex xs.length (Nat.le_refl _)
  have hin : inner = encs shE ss := List.ext_getElem? (fun j => by
    by_cases e : j < ss.length
    · rw [(h2 j _ (List.getElem?_eq_getElem e)).1]; simp [encs, e]
    · rw [List.getElem?_eq_none (by omega), List.getElem?_eq_none (by simp [encs]; omega)])
  refine ⟨ss, h1, ?_, fun j s b hs hb => (h2 j s hs).2 b hb⟩
  rw [hin, ← h1] at ho
  exact Kd.R_of_own (enc := shE) ho (fun _ _ => trivial)
end Go.Proofs.YtielnphmcaecdaaDoor.PAll
namespace Go.Proofs.YtielnphmcaecdaaDoor.PAll
open Go.RowKit Go.Proofs.YtielnphmcaecdaaDoorW.PrintWords Go.Proofs.YtielnphmcaecdaaDoorW.PrintLast Go.Proofs.YtielnphmcaecdaaDoorW.PrintMore
set_option linter.unusedVariables false
set_option linter.unusedSimpArgs false
structure Vs (q : Nat) (w w' : World) : Prop where
  os : w'.os = w.os
  tape : w'.tape = w.tape
  output : w'.output = w.output
  size : w.heap.size ≤ w'.heap.size
  block : ∀ k, k < w.heap.size → k ≠ q → (∀ c, w.heap[k]? ≠ some (.cells c 51 (0, 0))) → w'.heap[k]? = w.heap[k]?
theorem Vs.refl (q : Nat) (w : World) : Vs q w w := ⟨rfl, rfl, rfl, Nat.le_refl _, fun _ _ _ _ => rfl⟩
theorem Vs.trans {q : Nat} {a b c : World} (h : Vs q a b) (g : Vs q b c) : Vs q a c :=
  ⟨g.os.trans h.os, g.tape.trans h.tape, g.output.trans h.output, Nat.le_trans h.size g.size, fun k hk hq hc => by
    have h1 := h.block k hk hq hc
    exact (g.block k (Nat.lt_of_lt_of_le hk h.size) hq (fun c => by rw [h1]; exact hc c)).trans h1⟩
theorem Vs.of {q : Nat} {a b : World} (h : Below a.heap.size a b) : Vs q a b := ⟨h.os, h.tape, h.output, h.size, fun k hk _ _ => h.block k hk⟩
theorem Vs.blk {q g t : Nat} {w w' : World} {c : Array Value} (h : Vs q w w') (hb : w.heap[g]? = some (.cells c t (0, 0))) (hq : g ≠ q) (ht : t ≠ 51) : w'.heap[g]? = some (.cells c t (0, 0)) :=
  (h.block g (blk_lt hb) hq (fun d hd => by rw [hb] at hd; injection hd with hd; injection hd with _ hd; exact ht hd)).trans hb
theorem Vs.pres {q : Nat} {w w' : World} {SV : Array Value} (h : Vs q w w') (hq : w.heap[q]? = some (.cells SV 36 (0, 0))) : Pres5 w w' := fun k hk => by
  obtain ⟨c, hc⟩ := hk
  rw [h.blk hc (fun e => by subst e; rw [hq] at hc; injection hc with hc; injection hc with _ hc; cases hc) (by decide), hc]
theorem Vs.rw {q : Nat} {w w' : World} {SV : Array Value} {tb : Nat} {v : Value} {rs : List SH} (h : Vs q w w') (hq : w.heap[q]? = some (.cells SV 36 (0, 0))) (hR : Rw w tb v rs) : Rw w' tb v rs :=
  Kd.R_mono (Kd.R_step (Kd.R_tight rfl hR) (fun k hk hlt => by
    obtain ⟨c, hc⟩ := Kd.R_typed hR k hk.symm
    rw [h.blk hc (fun e => by subst e; rw [hq] at hc; injection hc with hc; injection hc with _ hc; cases hc) (by decide), hc])) (fun _ _ => trivial)
theorem lit_R (X : World) {B : Nat} (h : B ≤ X.heap.size) : Kd.R (Kd.int .u8) 5 (X.alloc (.cells #[] 5)) B (fun k => B ≤ k) (.slice (some ⟨X.heap.size, 0, none⟩) 0 0) [] := by
  refine ⟨fun k hk => ?_, [], ⟨rfl, .inr ⟨X.heap.size, 0, #[], rfl, h, blk_new X _, Nat.le_refl _, by decide, rfl, rfl⟩⟩, Reps.none _ _⟩
  have : X.heap.size = k := by simpa [Value.ownBlock] using hk
  omega
theorem Vs.below {q B : Nat} {w w' : World} (h : Vs q w w') (hq : B ≤ q) (hv : ∀ k c, k < B → w.heap[k]? ≠ some (.cells c 51 (0, 0))) (hB : B ≤ w.heap.size) : Below B w w' :=
  ⟨h.os, h.tape, h.output, h.size, fun k hk => h.block k (by omega) (by omega) (fun c => hv k c hk)⟩
theorem seen_end {w W0 wq : World} {tb q : Nat} {SV v13 : Value} {vs vs' : List S51} {ok : Nat → Prop} (hb : tb ≤ w.heap.size) (HB : Below w.heap.size w W0) (HS0 : Kd.S k51 51 W0 tb ok SV vs) (HQ13 : wq.heap[q]? = some (.cells #[SV] 36 (0, 0))) (HK13 : ∀ k, k < W0.heap.size → some k ≠ SV.ownBlock → wq.heap[k]? = W0.heap[k]?) (HB13 : Below tb W0 wq) (HS13 : Kd.S k51 51 wq tb (fun _ => True) v13 vs') :
    ∃ SV', (wq.setCell ⟨q, 0, none⟩ v13).heap[q]? = some (.cells #[SV'] 36 (0, 0)) ∧ Kd.S k51 51 (wq.setCell ⟨q, 0, none⟩ v13) tb (fun _ => True) SV' vs' ∧ (∀ B, B ≤ tb → B ≤ q → Below B w (wq.setCell ⟨q, 0, none⟩ v13)) ∧ Vs q w (wq.setCell ⟨q, 0, none⟩ v13) := by
  have hB : ∀ B, B ≤ tb → B ≤ q → Below B w (wq.setCell ⟨q, 0, none⟩ v13) := fun B h1 h2 => ((HB.mono (Nat.le_trans h1 hb)).trans (HB13.mono h1)).setCell (p := ⟨q, 0, none⟩) h2 _
  have h0 := hB 0 (Nat.zero_le _) (Nat.zero_le _)
  refine ⟨v13, blk_set HQ13 0 v13, Kd.S_set HS13 HQ13 (by decide) 0 v13, hB, ⟨h0.os, h0.tape, h0.output, h0.size, fun k hk hq hc => ?_⟩⟩
  rw [Below.heap_setCell wq ⟨q, 0, none⟩ v13 k hq, HK13 k (Nat.lt_of_lt_of_le hk HB.size) (fun e => ?_)]
  · exact HB.block k hk
  · obtain ⟨c, hc2⟩ := Kd.S_typed HS0 k e.symm
    exact hc c ((HB.block k hk).symm.trans hc2)
set_option maxHeartbeats 8000000 in
set_option maxRecDepth 100000 in
theorem seen60.calls (lv ix : Int) (A : Option Addr) (c : Nat) (b : List Int) (tb q : Nat) (SV : Value) (vs : List S51) (w : World) (hb : tb ≤ w.heap.size) (hq : w.heap[q]? = some (.cells #[SV] 36 (0, 0))) (hS : Kd.S k51 51 w tb (fun _ => True) SV vs)
    (hC : Kd.C (Kd.int .u8) w A b.length b) (hc : b.length ≤ c) (hl : vs.length < 1099511627776) (hbl : b.length ≤ 140737488355328) :
    Calls Tryd.prog 60 #[.agg #[.int .u64 lv, .int .u64 ix], .slice A b.length c, .pointer (some ⟨q, 0, none⟩)] w fun e w' => e = .returned (.tuple #[]) ∧ ∃ SV', w'.heap[q]? = some (.cells #[SV'] 36 (0, 0)) ∧ Kd.S k51 51 w' tb (fun _ => True) SV' (vs ++ [⟨⟨lv, ix⟩, b⟩]) ∧ (∀ B, B ≤ tb → B ≤ q → Below B w w') ∧ Vs q w w' := by
  have HB := Aside0.mk (below_alloc (Below.refl w.heap.size w) (Obj.cells #[Value.int IntKind.u64 lv, Value.int IntKind.u64 ix] 99))
  have hbk := blk_new w (Obj.cells #[Value.int IntKind.u64 lv, Value.int IntKind.u64 ix] 99)
  have HQ := Aside0.mk hq
  have HS := Aside0.mk hS
  have HC := Aside0.mk hC
  have HCC := Aside0.mk hc
  have HL := Aside0.mk hl
  have HBL := Aside0.mk hbl
  have HTB := Aside0.mk hb
  have hqlt := blk_lt hq
  clear hq hS hC hc hl hbl hb
  go_enter Tryd.func60, Tryd.ntmps60
  go_wp2_with (fail)
  generalize w.alloc (Obj.cells #[Value.int IntKind.u64 lv, Value.int IntKind.u64 ix] 99) = W0 at HB hbk ⊢
  have HQ0 := Aside0.mk (blk_below HQ.out HB.out)
  have HS0 := Aside0.mk (Kd.S_mono (ok' := fun k => k < W0.heap.size) (Kd.S_bound (Kd.S_below HS.out HB.out)) (fun k hk => hk.2.2.1))
  have HC0 := Aside0.mk (Kd.C_below HC.out HB.out)
  have HBK := Aside0.mk hbk
  have y0 : W0.cell? ⟨q, 0, none⟩ = some SV := blk_cell HQ0.out 0
  have y1 : W0.cell? ⟨w.heap.size, 0, none⟩ = some (.int .u64 lv) := blk_cell hbk 0
  have y2 : W0.cell? ⟨w.heap.size, 1, none⟩ = some (.int .u64 ix) := blk_cell hbk 1
  have HQL := Aside0.mk (show q < W0.heap.size from Nat.lt_of_lt_of_le hqlt HB.out.size)
  have HWL := Aside0.mk (show w.heap.size < W0.heap.size from blk_lt hbk)
  have HBn := Aside0.mk (Below.refl W0.heap.size W0)
  have hqw : q ≠ w.heap.size := Nat.ne_of_lt hqlt
  have hqw' : w.heap.size ≠ q := Nat.ne_of_gt hqlt
  clear hbk hqlt
  have z0 : ∀ o, (W0.alloc o).cell? ⟨q, 0, none⟩ = some SV := fun o => (World.cell?_alloc_lt _ _ _ HQL.out).trans y0
  have z1 : ∀ o, (W0.alloc o).cell? ⟨w.heap.size, 0, none⟩ = some (.int .u64 lv) := fun o => (World.cell?_alloc_lt _ _ _ HWL.out).trans y1
  have z2 : ∀ o, (W0.alloc o).cell? ⟨w.heap.size, 1, none⟩ = some (.int .u64 ix) := fun o => (World.cell?_alloc_lt _ _ _ HWL.out).trans y2
  go_region_law (first
    | (go_simp
       go_at_call 54
       refine (impl_fromNode.calls lv ix lv ix _ rfl).mono ?_
       rintro e wq ⟨rfl, hB⟩
       have hB1 : Below W0.heap.size W0 wq := below_step (by repeat (first | exact HBn.out | exact Below.refl _ _ | (refine below_alloc ?_ _) | apply Below.drew | apply pw_below_drewN | apply below_drew)) hB
       try have H8 := Aside0.mk (Kd.R_below (Kd.R_drew (lit_R _ (below_size (by repeat (first | exact HBn.out | exact Below.refl _ _ | (refine below_alloc ?_ _) | apply Below.drew | apply pw_below_drewN | apply below_drew))))) hB)
       try have H8 := Aside0.mk (Kd.R_below (lit_R _ (below_size (by repeat (first | exact HBn.out | exact Below.refl _ _ | (refine below_alloc ?_ _) | apply Below.drew | apply pw_below_drewN | apply below_drew)))) hB)
       try have H10 := Aside0.mk (Kd.R_below H10.out (below_step (by repeat (first | exact Below.refl _ _ | apply Below.drew | apply below_drew)) hB))
       have HBn := Aside0.mk hB1
       have v0_ := (HBn.out.cell (p := ⟨q, 0, none⟩) HQL.out).trans y0
       have z0_ : ∀ o, (wq.alloc o).cell? ⟨q, 0, none⟩ = some SV := fun o => (World.cell?_alloc_lt _ _ _ (Nat.lt_of_lt_of_le HQL.out HBn.out.size)).trans v0_
       clear hB hB1)
    | (refine Kd.R_append_rows_step (Kd.int .u8) (w0 := W0) W0.heap.size ?hw (.tmp 8) (.tmp 9) 27 5 (.int .u8 0) 1 rfl Tryd.underlying27 info5 rfl (by decide) (by omega) _ [] b A b.length c (fun k => W0.heap.size ≤ k) (fun _ => False) rfl rfl ?aO ?aR (fun _ _ h => h) (fun _ h => h.elim) ?aF ?hB ?hbase ?aL ?_
       (case hw => simp [Region.wanted])
       (case aO => repeat (first | exact H8.out | exact lit_R _ (below_size (by repeat (first | exact HBn.out | exact Below.refl _ _ | (refine below_alloc ?_ _) | apply Below.drew | apply pw_below_drewN | apply below_drew))) | (refine Kd.R_drewN ?_ _) | (refine Kd.R_drew ?_)))
       (case aR => exact Kd.C_below HC0.out (by repeat (first | exact HBn.out | exact Below.refl _ _ | (refine below_alloc ?_ _) | apply Below.drew | apply pw_below_drewN | apply below_drew)))
       (case aF => exact fun k hk => Nat.le_trans (below_size (by repeat (first | exact HBn.out | exact Below.refl _ _ | (refine below_alloc ?_ _) | apply Below.drew | apply pw_below_drewN | apply below_drew))) hk)
       (case hB => exact (by repeat (first | exact HBn.out | exact Below.refl _ _ | (refine below_alloc ?_ _) | apply Below.drew | apply pw_below_drewN | apply below_drew)))
       (case hbase => exact below_size (by repeat (first | exact HBn.out | exact Below.refl _ _ | (refine below_alloc ?_ _) | apply Below.drew | apply pw_below_drewN | apply below_drew)))
       (case aL => have := HBL.out; simp; omega)
       intro v10 wq ho hB hg hat
       have H10 := Aside0.mk (show Kd.R (Kd.int .u8) 5 wq W0.heap.size (fun k => W0.heap.size ≤ k) v10 b from ho)
       obtain ⟨A10, c10, rfl⟩ := Kd.R_slice H10.out
       have HBn := Aside0.mk hB
       have v0_ := (HBn.out.cell (p := ⟨q, 0, none⟩) HQL.out).trans y0
       have z0_ : ∀ o, (wq.alloc o).cell? ⟨q, 0, none⟩ = some SV := fun o => (World.cell?_alloc_lt _ _ _ (Nat.lt_of_lt_of_le HQL.out HBn.out.size)).trans v0_
       clear ho hB hg hat)
    | (refine Kd.S_append_step k51 (w0 := W0) tb ?hw (.tmp 5) (.tmp 12) 36 51 (.agg #[(.int .u64 0), (.int .u64 0), (.slice none 0 0)]) 40 rfl Tryd.underlying36 info51 rfl (by decide) (by omega) SV vs ⟨⟨lv, ix⟩, b⟩ [.int .u64 lv, .int .u64 ix, .slice A10 b.length c10] (fun _ => True) (fun k => W0.heap.size ≤ k) rfl rfl ?hp ?hok (fun _ _ => trivial) ?HO ?hB ?hbase ?aL ?_
       (case hw => simp [Region.wanted])
       (case hp => exact k51_mkM _ tb _ ⟨⟨lv, ix⟩, b⟩ (Kd.R_lower (by repeat (first | exact H10.out | (refine Kd.R_alloc ?_ _) | (refine Kd.R_drewN ?_ _) | (refine Kd.R_drew ?_))) (Nat.le_trans HTB.out HB.out.size)))
       (case hok => exact fun k hk => ⟨trivial, fun e => absurd (Kd.S_lt HS0.out k e.symm) (Nat.not_lt_of_le hk)⟩)
       (case HO => exact Kd.S_mono (Kd.S_step HS0.out (fun k hk _ => (show Below W0.heap.size W0 _ from (by repeat (first | exact HBn.out | exact Below.refl _ _ | (refine below_alloc ?_ _) | apply Below.drew | apply pw_below_drewN | apply below_drew))).block k hk)) (fun k hk => ⟨trivial, Nat.not_le_of_lt hk⟩))
       (case hB => exact (show Below W0.heap.size W0 _ from (by repeat (first | exact HBn.out | exact Below.refl _ _ | (refine below_alloc ?_ _) | apply Below.drew | apply pw_below_drewN | apply below_drew))).mono (Nat.le_trans HTB.out HB.out.size))
       (case hbase => exact Nat.le_trans (Nat.le_trans HTB.out HB.out.size) (below_size (show Below W0.heap.size W0 _ from (by repeat (first | exact HBn.out | exact Below.refl _ _ | (refine below_alloc ?_ _) | apply Below.drew | apply pw_below_drewN | apply below_drew)))))
       (case aL => have := HL.out; omega)
       intro v13 wq hS13 hB13 hg13 hat
       have HQ13 := Aside0.mk (show wq.heap[q]? = some (.cells #[SV] 36 (0, 0)) from by
         obtain ⟨hS, hH⟩ := (⟨hS13, hg13⟩ : _ ∧ _)
         exact (hH.block q (Nat.lt_of_lt_of_le HQL.out (below_size (show Below W0.heap.size W0 _ from (by repeat (first | exact HBn.out | exact Below.refl _ _ | (refine below_alloc ?_ _) | apply Below.drew | apply pw_below_drewN | apply below_drew))))) (fun e => blk_ne HQ0.out (Kd.S_typed HS0.out q e.symm).choose_spec (by decide) rfl)).trans (((show Below W0.heap.size W0 _ from (by repeat (first | exact HBn.out | exact Below.refl _ _ | (refine below_alloc ?_ _) | apply Below.drew | apply pw_below_drewN | apply below_drew))).block q HQL.out).trans HQ0.out))
       have HK13 := Aside0.mk (show ∀ k, k < W0.heap.size → some k ≠ SV.ownBlock → wq.heap[k]? = W0.heap[k]? from fun k hk hne => (hg13.block k (Nat.lt_of_lt_of_le hk (below_size (show Below W0.heap.size W0 _ from (by repeat (first | exact HBn.out | exact Below.refl _ _ | (refine below_alloc ?_ _) | apply Below.drew | apply pw_below_drewN | apply below_drew))))) hne).trans ((show Below W0.heap.size W0 _ from (by repeat (first | exact HBn.out | exact Below.refl _ _ | (refine below_alloc ?_ _) | apply Below.drew | apply pw_below_drewN | apply below_drew))).block k hk))
       have HS13 := Aside0.mk hS13
       have HB13 := Aside0.mk hB13
       have v0_ : wq.cell? ⟨q, 0, none⟩ = some SV := blk_cell HQ13.out 0
       obtain ⟨A13, c13, rfl⟩ := Kd.S_slice HS13.out
       have f0_ : wq.frozen? ⟨q, 0, none⟩ = false := blk_frozen HQ13.out 0
       clear hS13 hB13 hg13 hat)
    | fail)
  all_goals
    go_wp2
    go_end0
    exact ⟨rfl, seen_end HTB.out HB.out HS0.out HQ13.out HK13.out HB13.out (by have := HS13.out; rw [List.length_append] at this; exact this)⟩
end Go.Proofs.YtielnphmcaecdaaDoor.PAll
namespace Go.Proofs.YtielnphmcaecdaaDoor.Num
open Go.RowKit Go.Proofs.YtielnphmcaecdaaDoorW.PrintWords Go.Proofs.YtielnphmcaecdaaDoorW.PrintLast Go.Proofs.YtielnphmcaecdaaDoorW.PrintMore
theorem u64w (x : Int) : IntKind.u64.wrap x = x % 18446744073709551616 := by simp [IntKind.wrap, IntKind.bits, IntKind.signed]
theorem u64n (n : Nat) : IntKind.u64.wrap (n : Int) = ((n % 18446744073709551616 : Nat) : Int) := by rw [u64w]; omega
theorem u64in {n : Nat} (h : n < 18446744073709551616) : IntKind.u64.wrap (n : Int) = (n : Int) := by rw [u64w]; omega
theorem w64 {n : Nat} (h : n < 9223372036854775808) : wrap64 (n : Int) = (n : Int) := by unfold wrap64; omega
theorem and64 (a b : Nat) (ha : a < 18446744073709551616) (hb : b < 18446744073709551616) : Go.bits .and .u64 (a : Int) (b : Int) = ((a &&& b : Nat) : Int) := u64_and_nat a b ha hb
theorem xor64 (a b : Nat) (ha : a < 18446744073709551616) (hb : b < 18446744073709551616) : Go.bits .xor .u64 (a : Int) (b : Int) = ((a ^^^ b : Nat) : Int) := u64_xor_nat a b ha hb
theorem shl64 (a b : Nat) (hb : b ≤ 64) : shl .u64 (a : Int) (b : Int) = ((a * 2 ^ b % 18446744073709551616 : Nat) : Int) := by
  show IntKind.u64.wrap ((a : Int) * 2 ^ min ((b : Int).toNat) 64) = _
  rw [Int.toNat_natCast, Nat.min_eq_left hb, u64w, Int.natCast_emod, Int.natCast_mul, Int.natCast_pow]
  rfl
theorem u64sub {a b : Nat} (h : b ≤ a) (ha : a < 18446744073709551616) : IntKind.u64.wrap ((a : Int) - (b : Int)) = ((a - b : Nat) : Int) := by
  rw [← Int.natCast_sub h]; exact u64in (by omega)
theorem u64add {a b : Nat} (h : a + b < 18446744073709551616) : IntKind.u64.wrap ((a : Int) + (b : Int)) = ((a + b : Nat) : Int) := by
  rw [← Int.natCast_add]; exact u64in h
theorem u64mul {a b : Nat} (h : a * b < 18446744073709551616) : IntKind.u64.wrap ((a : Int) * (b : Int)) = ((a * b : Nat) : Int) := by
  rw [← Int.natCast_mul]; exact u64in h
theorem pow_lt64 {k : Nat} (hk : k ≤ 63) : 2 ^ k < 18446744073709551616 :=
  Nat.lt_of_le_of_lt (Nat.pow_le_pow_right (by decide) hk) (by decide)
theorem shl_one {k : Nat} (hk : k ≤ 63) : shl .u64 1 (k : Int) = ((2 ^ k : Nat) : Int) := by
  have := shl64 1 k (by omega)
  rw [Nat.one_mul, Nat.mod_eq_of_lt (pow_lt64 hk)] at this
  exact this
end Go.Proofs.YtielnphmcaecdaaDoor.Num
namespace Go.Proofs.YtielnphmcaecdaaDoor.Mth
def blen (n : Nat) : Nat := if n = 0 then 0 else blen (n / 2) + 1
def ones (n : Nat) : Nat := if n = 0 then 0 else n % 2 + ones (n / 2)
theorem blen_zero : blen 0 = 0 := by rw [blen, if_pos rfl]
theorem blen_pos {n : Nat} (h : 0 < n) : blen n = blen (n / 2) + 1 := by rw [blen, if_neg (by omega)]
theorem ones_zero : ones 0 = 0 := by rw [ones, if_pos rfl]
theorem ones_half (n : Nat) : ones n = n % 2 + ones (n / 2) := by
  by_cases h : n = 0
  · subst h; simp [ones_zero]
  · rw [ones, if_neg h]
theorem lt_blen (n : Nat) : n < 2 ^ blen n := by
  induction n using Nat.strongRecOn with
  | _ n ih =>
  by_cases h : n = 0
  · subst h; simp [blen_zero]
  · have := ih (n / 2) (by omega)
    rw [blen_pos (by omega), Nat.pow_succ]; omega
theorem blen_le {n m : Nat} : blen n ≤ m ↔ n < 2 ^ m := by
  induction m generalizing n with
  | zero =>
    by_cases h : n = 0
    · subst h; simp [blen_zero]
    · rw [blen_pos (by omega)]; simp; omega
  | succ m ih =>
    by_cases h : n = 0
    · subst h; simp [blen_zero, Nat.pow_pos]
    · rw [blen_pos (by omega), Nat.pow_succ]
      have := ih (n := n / 2)
      omega
theorem xor_lt_iff (a b m : Nat) : a ^^^ b < 2 ^ m ↔ a / 2 ^ m = b / 2 ^ m := by
  constructor
  · intro h
    have h1 := Nat.xor_div_two_pow (a := a) (b := b) (n := m)
    rw [Nat.div_eq_of_lt h] at h1
    have h2 : (a / 2 ^ m ^^^ b / 2 ^ m) ^^^ b / 2 ^ m = 0 ^^^ b / 2 ^ m := by rw [← h1]
    rwa [Nat.xor_assoc, Nat.xor_self, Nat.xor_zero, Nat.zero_xor] at h2
  · intro h
    have h1 := Nat.xor_div_two_pow (a := a) (b := b) (n := m)
    rw [h, Nat.xor_self] at h1
    exact (Nat.div_eq_zero_iff_lt (Nat.two_pow_pos m)).1 h1
def fork (i n : Nat) : Nat := blen (i ^^^ n)
theorem fork_le {i n m : Nat} : fork i n ≤ m ↔ i / 2 ^ m = n / 2 ^ m := by rw [fork, blen_le, xor_lt_iff]
theorem fork_eq (i n : Nat) : i / 2 ^ fork i n = n / 2 ^ fork i n := fork_le.1 (Nat.le_refl _)
theorem blen_lt64 {n : Nat} (h : n < 18446744073709551616) : blen n ≤ 64 := blen_le.2 h
theorem ones_le (n k : Nat) (h : n < 2 ^ k) : ones n ≤ k := by
  induction k generalizing n with
  | zero => have : n = 0 := by simpa using h
            subst this; simp [ones_zero]
  | succ k ih =>
    have := ih (n / 2) (by rw [Nat.pow_succ] at h; omega)
    rw [ones_half]; omega
theorem and_split (x a b : Nat) (ha : a < 256) : x &&& (a + 256 * b) = (x % 256 &&& a) + 256 * (x / 256 &&& b) := by
  have h1 := Nat.and_div_two_pow (a := x) (b := a + 256 * b) (n := 8)
  have h2 := Nat.and_mod_two_pow (a := x) (b := a + 256 * b) (n := 8)
  rw [show (2 : Nat) ^ 8 = 256 from rfl] at h1 h2
  rw [show (a + 256 * b) / 256 = b by omega] at h1
  rw [show (a + 256 * b) % 256 = a by omega] at h2
  omega
def msk (v : Nat) : Nat → Nat
  | 0 => 0
  | k + 1 => v + 256 * msk v k
def st1 (k x : Nat) : Nat := (x / 2 &&& msk 85 k) + (x &&& msk 85 k)
def st2 (k x : Nat) : Nat := (x / 4 &&& msk 51 k) + (x &&& msk 51 k)
def st3 (k x : Nat) : Nat := (x / 16 + x) &&& msk 15 k
theorem byte1 : ∀ b < 2, ∀ c < 256, (c / 2 + 128 * b) &&& 85 = c / 2 &&& 85 := by decide +kernel
theorem byte2 : ∀ b < 4, ∀ c < 256, (c / 4 + 64 * b) &&& 51 = c / 4 &&& 51 := by decide +kernel
def by1 (c : Nat) : Nat := (c / 2 &&& 85) + (c &&& 85)
def by2 (c : Nat) : Nat := (c / 4 &&& 51) + (c &&& 51)
theorem byte3 : ∀ c < 256, by1 c < 256 ∧ by2 (by1 c) ≤ 68 ∧ by2 (by1 c) % 16 ≤ 4 ∧ (by2 (by1 c) / 16 + by2 (by1 c)) % 16 = ones c ∧ ones c ≤ 8 := by decide +kernel
theorem st1_step (k x : Nat) : st1 (k + 1) x = by1 (x % 256) + 256 * st1 k (x / 256) := by
  have h := byte1 (x / 256 % 2) (by omega) (x % 256) (by omega)
  unfold st1 by1
  rw [show msk 85 (k + 1) = 85 + 256 * msk 85 k from rfl]
  rw [and_split _ _ _ (by omega), and_split _ _ _ (by omega), show x / 2 % 256 = x % 256 / 2 + 128 * (x / 256 % 2) by omega, h, show x / 2 / 256 = x / 256 / 2 by omega]
  omega
theorem st2_step (k x : Nat) : st2 (k + 1) x = by2 (x % 256) + 256 * st2 k (x / 256) := by
  have h := byte2 (x / 256 % 4) (by omega) (x % 256) (by omega)
  unfold st2 by2
  rw [show msk 51 (k + 1) = 51 + 256 * msk 51 k from rfl]
  rw [and_split _ _ _ (by omega), and_split _ _ _ (by omega), show x / 4 % 256 = x % 256 / 4 + 64 * (x / 256 % 4) by omega, h, show x / 4 / 256 = x / 256 / 4 by omega]
  omega
theorem ones_byte (k x : Nat) : ones (x % 2 ^ (k + 1)) = x % 2 + ones (x / 2 % 2 ^ k) := by
  rw [ones_half, Nat.pow_succ, Nat.mul_comm, Nat.mod_mul]
  have : 2 * (x / 2 % 2 ^ k) + x % 2 = x % 2 + 2 * (x / 2 % 2 ^ k) := by omega
  rw [show (x % 2 + 2 * (x / 2 % 2 ^ k)) / 2 = x / 2 % 2 ^ k by omega, show (x % 2 + 2 * (x / 2 % 2 ^ k)) % 2 = x % 2 by omega]
theorem ones_split (k x : Nat) : ones x = ones (x % 2 ^ k) + ones (x / 2 ^ k) := by
  induction k generalizing x with
  | zero => simp [Nat.mod_one, ones_zero]
  | succ k ih =>
    rw [ones_byte, ones_half x, ih (x / 2), Nat.div_div_eq_div_mul, Nat.pow_succ, Nat.mul_comm 2]; omega
def cnt : Nat → Nat → Nat
  | 0, _ => 0
  | k + 1, x => ones (x % 256) + 256 * cnt k (x / 256)
theorem st2_low (k x : Nat) : st2 k (st1 k x) % 16 ≤ 4 := by
  cases k with
  | zero => simp [st2, st1, msk]
  | succ k =>
    have h := byte3 (x % 256) (by omega)
    rw [st1_step, st2_step, show (by1 (x % 256) + 256 * st1 k (x / 256)) % 256 = by1 (x % 256) by omega]
    omega
theorem st3_all (k x : Nat) : st3 k (st2 k (st1 k x)) = cnt k x := by
  induction k generalizing x with
  | zero => simp [st3, msk, cnt]
  | succ k ih =>
    have h := byte3 (x % 256) (by omega)
    have hl := st2_low k (x / 256)
    rw [st1_step, st2_step, show (by1 (x % 256) + 256 * st1 k (x / 256)) % 256 = by1 (x % 256) by omega, show (by1 (x % 256) + 256 * st1 k (x / 256)) / 256 = st1 k (x / 256) by omega, cnt, ← ih (x / 256)]
    generalize hy : st2 k (st1 k (x / 256)) = y at *
    generalize hc : by2 (by1 (x % 256)) = c at *
    unfold st3
    rw [show msk 15 (k + 1) = 15 + 256 * msk 15 k from rfl]
    have e1 : ((c + 256 * y) / 16 + (c + 256 * y)) / 256 = y / 16 + y := by omega
    have e2 : ((c + 256 * y) / 16 + (c + 256 * y)) % 256 = c / 16 + c + 16 * (y % 16) := by omega
    rw [and_split _ _ _ (by omega), e1, e2]
    have e3 : (c / 16 + c + 16 * (y % 16)) &&& 15 = (c / 16 + c) % 16 := by
      have := Nat.and_two_pow_sub_one_eq_mod (c / 16 + c + 16 * (y % 16)) 4
      rw [show (2 : Nat) ^ 4 - 1 = 15 from rfl] at this
      rw [this]; omega
    rw [e3]; omega
theorem div_of {a m : Nat} (r : Nat) (h : a < m) : (a + m * r) / m = r := by rw [Nat.add_mul_div_left _ _ (by omega), Nat.div_eq_of_lt h, Nat.zero_add]
theorem lin1 (c0 c1 c2 c3 c4 c5 c6 c7 : Nat) : (c0 + 256 * (c1 + 256 * (c2 + 256 * (c3 + 256 * (c4 + 256 * (c5 + 256 * (c6 + 256 * (c7 + 256 * 0)))))))) + (c1 + 256 * (c2 + 256 * (c3 + 256 * (c4 + 256 * (c5 + 256 * (c6 + 256 * (c7 + 256 * 0)))))))
    = ((c0 + c1) + 256 * (c1 + c2)) + 65536 * ((c2 + c3) + 256 * (c3 + c4) + 65536 * ((c4 + c5) + 256 * (c5 + c6) + 65536 * ((c6 + c7) + 256 * c7))) := by omega
theorem lin2 (c0 c1 c2 c3 c4 c5 c6 c7 : Nat) : (((c0 + c1) + 256 * (c1 + c2)) + 65536 * ((c2 + c3) + 256 * (c3 + c4) + 65536 * ((c4 + c5) + 256 * (c5 + c6) + 65536 * ((c6 + c7) + 256 * c7)))) + ((c2 + c3) + 256 * (c3 + c4) + 65536 * ((c4 + c5) + 256 * (c5 + c6) + 65536 * ((c6 + c7) + 256 * c7)))
    = ((c0 + c1 + c2 + c3) + 256 * (c1 + c2 + c3 + c4) + 65536 * (c2 + c3 + c4 + c5) + 16777216 * (c3 + c4 + c5 + c6)) + 4294967296 * ((c4 + c5 + c6 + c7) + 256 * (c5 + c6 + c7) + 65536 * (c6 + c7) + 16777216 * c7) := by omega
theorem lin3 (c0 c1 c2 c3 c4 c5 c6 c7 : Nat) : (((c0 + c1 + c2 + c3) + 256 * (c1 + c2 + c3 + c4) + 65536 * (c2 + c3 + c4 + c5) + 16777216 * (c3 + c4 + c5 + c6)) + 4294967296 * ((c4 + c5 + c6 + c7) + 256 * (c5 + c6 + c7) + 65536 * (c6 + c7) + 16777216 * c7)) + ((c4 + c5 + c6 + c7) + 256 * (c5 + c6 + c7) + 65536 * (c6 + c7) + 16777216 * c7)
    = (c0 + (c1 + (c2 + (c3 + (c4 + (c5 + (c6 + c7))))))) + 128 * (2 * (c1 + c2 + c3 + c4) + 512 * (c2 + c3 + c4 + c5) + 131072 * (c3 + c4 + c5 + c6) + 33554432 * ((c4 + c5 + c6 + c7) + 256 * (c5 + c6 + c7) + 65536 * (c6 + c7) + 16777216 * c7) + 2 * (c5 + c6 + c7) + 512 * (c6 + c7) + 131072 * c7) := by omega
theorem spread (c0 c1 c2 c3 c4 c5 c6 c7 : Nat) (b0 : c0 ≤ 8) (b1 : c1 ≤ 8) (b2 : c2 ≤ 8) (b3 : c3 ≤ 8) (b4 : c4 ≤ 8) (b5 : c5 ≤ 8) (b6 : c6 ≤ 8) (b7 : c7 ≤ 8) :
    let y := c0 + 256 * (c1 + 256 * (c2 + 256 * (c3 + 256 * (c4 + 256 * (c5 + 256 * (c6 + 256 * (c7 + 256 * 0)))))))
    let y1 := y + y / 256; let y2 := y1 + y1 / 65536; let y3 := y2 + y2 / 4294967296
    y3 % 128 = c0 + (c1 + (c2 + (c3 + (c4 + (c5 + (c6 + c7)))))) ∧ y3 < 9223372036854775808 ∧ y2 < 18446744073709551616 ∧ y1 < 18446744073709551616 ∧ y < 18446744073709551616 := by
  dsimp only
  rw [div_of (a := c0) (m := 256) _ (by omega), lin1, div_of (m := 65536) _ (by omega), lin2, div_of (m := 4294967296) _ (by omega), lin3, Nat.add_mul_mod_self_left]
  refine ⟨Nat.mod_eq_of_lt (by omega), by omega, by omega, by omega, by omega⟩
theorem swar (x : Nat) (hx : x < 18446744073709551616) : let y := cnt 8 x; let y1 := y + y / 256; let y2 := y1 + y1 / 65536; let y3 := y2 + y2 / 4294967296; y3 % 128 = ones x ∧ y3 < 9223372036854775808 ∧ y2 < 18446744073709551616 ∧ y1 < 18446744073709551616 ∧ y < 18446744073709551616 := by
  have s0 := ones_split 8 x
  have s1 := ones_split 8 (x / 256)
  have s2 := ones_split 8 (x / 256 / 256)
  have s3 := ones_split 8 (x / 256 / 256 / 256)
  have s4 := ones_split 8 (x / 256 / 256 / 256 / 256)
  have s5 := ones_split 8 (x / 256 / 256 / 256 / 256 / 256)
  have s6 := ones_split 8 (x / 256 / 256 / 256 / 256 / 256 / 256)
  rw [show (2 : Nat) ^ 8 = 256 from rfl] at s0 s1 s2 s3 s4 s5 s6
  have e7 : x / 256 / 256 / 256 / 256 / 256 / 256 / 256 % 256 = x / 256 / 256 / 256 / 256 / 256 / 256 / 256 := by omega
  have b0 := (byte3 (x % 256) (by omega)).2.2.2.2
  have b1 := (byte3 (x / 256 % 256) (by omega)).2.2.2.2
  have b2 := (byte3 (x / 256 / 256 % 256) (by omega)).2.2.2.2
  have b3 := (byte3 (x / 256 / 256 / 256 % 256) (by omega)).2.2.2.2
  have b4 := (byte3 (x / 256 / 256 / 256 / 256 % 256) (by omega)).2.2.2.2
  have b5 := (byte3 (x / 256 / 256 / 256 / 256 / 256 % 256) (by omega)).2.2.2.2
  have b6 := (byte3 (x / 256 / 256 / 256 / 256 / 256 / 256 % 256) (by omega)).2.2.2.2
  have b7 := (byte3 (x / 256 / 256 / 256 / 256 / 256 / 256 / 256 % 256) (by omega)).2.2.2.2
  simp only [cnt]
  rw [e7] at b7 ⊢
  generalize ones (x % 256) = c0 at *
  generalize ones (x / 256 % 256) = c1 at *
  generalize ones (x / 256 / 256 % 256) = c2 at *
  generalize ones (x / 256 / 256 / 256 % 256) = c3 at *
  generalize ones (x / 256 / 256 / 256 / 256 % 256) = c4 at *
  generalize ones (x / 256 / 256 / 256 / 256 / 256 % 256) = c5 at *
  generalize ones (x / 256 / 256 / 256 / 256 / 256 / 256 % 256) = c6 at *
  generalize ones (x / 256 / 256 / 256 / 256 / 256 / 256 / 256) = c7 at *
  rw [s0, s1, s2, s3, s4, s5, s6]
  clear s0 s1 s2 s3 s4 s5 s6 e7 hx
  exact spread c0 c1 c2 c3 c4 c5 c6 c7 b0 b1 b2 b3 b4 b5 b6 b7
def psplit (n : Nat) : Nat := 2 ^ (blen (n - 1) - 1)
theorem blen_unique {n j : Nat} (h1 : 2 ^ j ≤ n) (h2 : n < 2 ^ (j + 1)) : blen n = j + 1 := by
  have h3 := blen_le.2 h2
  have h4 : ¬ blen n ≤ j := fun h => by have := blen_le.1 h; omega
  omega
theorem pow_blen_le {n : Nat} (h : 0 < n) : 2 ^ (blen n - 1) ≤ n := by
  have h1 : ¬ blen n ≤ blen n - 1 := by have := blen_pos h; omega
  rw [blen_le] at h1; omega
theorem psplit_lt {n : Nat} (h : 2 ≤ n) : psplit n < n := by
  have := pow_blen_le (n := n - 1) (by omega)
  unfold psplit; omega
theorem psplit_pos (n : Nat) : 0 < psplit n := Nat.two_pow_pos _
theorem le_psplit {n : Nat} (h : 2 ≤ n) : n ≤ 2 * psplit n := by
  have h1 := lt_blen (n - 1)
  have h2 := blen_pos (n := n - 1) (by omega)
  unfold psplit
  rw [show blen (n - 1) = blen (n - 1) - 1 + 1 by omega, Nat.pow_succ] at h1
  omega
theorem psplit_unique {n j : Nat} (h1 : 2 ^ j < n) (h2 : n ≤ 2 * 2 ^ j) : psplit n = 2 ^ j := by
  unfold psplit
  rw [blen_unique (j := j) (by omega) (by rw [Nat.pow_succ]; omega)]; rfl
theorem psplit_pow (k : Nat) : psplit (2 ^ (k + 1)) = 2 ^ k := psplit_unique (by rw [Nat.pow_succ]; have := Nat.two_pow_pos k; omega) (by rw [Nat.pow_succ]; omega)
end Go.Proofs.YtielnphmcaecdaaDoor.Mth
namespace Go.Proofs.YtielnphmcaecdaaDoor.PAll
open Go.RowKit Go.Proofs.YtielnphmcaecdaaDoor.Mth Go.Proofs.YtielnphmcaecdaaDoorW.PrintWords Go.Proofs.YtielnphmcaecdaaDoorW.PrintLast Go.Proofs.YtielnphmcaecdaaDoorW.PrintMore
set_option linter.unusedVariables false
theorem grown_from {W W' w5 : World} {row : Option Nat} (hb : Below W.heap.size W W') (hg : W'.grownBy w5 row) : W.grownBy w5 row :=
  ⟨hg.os.trans hb.os, hg.tape.trans hb.tape, hg.output.trans hb.output, Nat.le_trans hb.size hg.size, fun k hk hne => (hg.block k (Nat.lt_of_lt_of_le hk hb.size) hne).trans (hb.block k hk)⟩
theorem hat_from {W W' : World} {v v5 : Value} (hb : Below W.heap.size W W') (h : v5.ownBlock = v.ownBlock ∨ ∃ b, v5.ownBlock = some b ∧ W'.heap.size ≤ b) : v5.ownBlock = v.ownBlock ∨ ∃ b, v5.ownBlock = some b ∧ W.heap.size ≤ b := by
  rcases h with h | ⟨b, h1, h2⟩
  · exact .inl h
  · exact .inr ⟨b, h1, Nat.le_trans hb.size h2⟩
theorem carry {n ℓ : Nat} (h : ∀ i, i < ℓ → n / 2 ^ i % 2 = 1) : (n + 1) / 2 ^ ℓ = n / 2 ^ ℓ + 1 := by
  induction ℓ with
  | zero => rw [Nat.pow_zero, Nat.div_one, Nat.div_one]
  | succ ℓ ih =>
    have h1 := ih (fun i hi => h i (by omega))
    have h2 := h ℓ (by omega)
    rw [Nat.pow_succ, ← Nat.div_div_eq_div_mul, ← Nat.div_div_eq_div_mul, h1]; omega
end Go.Proofs.YtielnphmcaecdaaDoor.PAll
