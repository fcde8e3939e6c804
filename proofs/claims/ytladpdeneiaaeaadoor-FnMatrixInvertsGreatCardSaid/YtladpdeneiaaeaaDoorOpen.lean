import Derived.Test.YtladpdeneiaaeaaDoorWWords
import Derived.Deep.Slices
import Derived.Lib.SmallJoins
/-!
What an argument's reading gives in the print's words: 'Opens P d t wf': whatever reads as data of type t is a value of the kind d that is 'wf'.
-/
namespace Go.Proofs.YtladpdeneiaaeaaDoorW.PrintWords
open Go.RowKit Go.ChangeShapes Go.WideShapes
structure Opens {α : Type} (P : Program) (d : Kd α) (t : TypeId) (wf : α → Prop) : Prop where
  cells : P.cellsOf t = d.sz
  opens : ∀ {H : Type} {enc : TypeId × Value → H} {w : World} {base : Nat} {spare : Nat → Bool} {held : Bool} {n : Nat} {cs : List Value} {y : DataW H × List MemPlace},
    DataW.trod enc P w base spare held n t cs = some y → ∃ x, d.K w x cs ∧ wf x
theorem Opens.int {P : Program} {k : IntKind} {t : TypeId} (ht : P.underlying t = some (.int k)) (hc : P.cellsOf t = 1) : Opens P (Kd.int k) t (fun x => (Lit.int k x).wf = true) where
  cells := hc
  opens := fun h => by
    obtain ⟨n, rfl, _, hw⟩ := DataW.trod_int ht h
    exact ⟨n, rfl, hw⟩
/-- The cells of a row's element, read one by one. -/
theorem cells_of {w : World} {base : Nat} {a : Addr} {m : Nat} {cs : List Value} (h : w.cells? base a m = some cs) : cs.length = m ∧ ∀ i u, cs[i]? = some u → w.cell? (a.add i) = some u := by
  obtain ⟨_, h1, h2⟩ := World.cells?_some h
  exact ⟨h1, fun i u hu => (h2 i (by have := (List.getElem?_eq_some_iff.1 hu).1; omega)).trans hu⟩
theorem Opens.slice {α : Type} {P : Program} {d : Kd α} {t e : TypeId} {wf : α → Prop} (hd : Opens P d e wf) (ht : P.underlying t = some (.slice e)) (hc : P.cellsOf t = 1) :
    Opens P (Kd.slice e d) t (fun xs => xs.length ≤ maxLen ∧ ∀ x ∈ xs, wf x) where
  cells := hc
  opens := fun {H enc w base spare held n cs y} h => by
    rcases Deep.open_slice ht h with ⟨rfl, _⟩ | ⟨a, len, cap, m, n', D, Pl, rfl, _, hl, hm, hmm, _, hi⟩
    · exact ⟨[], ⟨none, 0, rfl, Nat.le_refl _, rfl, by simp, fun h => absurd h (by simp)⟩, by simp, fun x hx => by simp at hx⟩
    · have hle : len ≤ m := by rw [hmm]; split <;> omega
      have hx : ∀ i, i < len → ∃ x : α, wf x ∧ ∃ cs', d.K w x cs' ∧ w.cells? base (a.add (i * P.cellsOf e)) (P.cellsOf e) = some cs' := fun i h2 => by
        obtain ⟨cs', h3, h4⟩ := hi i (by omega)
        obtain ⟨x, h5, h6⟩ := hd.opens h4
        exact ⟨x, h6, cs', h5, h3⟩
      have hlist : ∀ j, j ≤ len → ∃ xs : List α, xs.length = j ∧ (∀ x ∈ xs, wf x) ∧ ∀ (i : Nat) p, xs[i]? = some p → ∃ cs', d.K w p cs' ∧ w.cells? base (a.add (i * P.cellsOf e)) (P.cellsOf e) = some cs' := by
        intro j
        induction j with
        | zero => exact fun _ => ⟨[], rfl, fun x hx => by simp at hx, fun i p hp => by simp at hp⟩
        | succ j ih =>
          intro hj
          obtain ⟨xs, h1, h2, h3⟩ := ih (by omega)
          obtain ⟨x, h4, cs', h5, h6⟩ := hx j (by omega)
          refine ⟨xs ++ [x], by simp [h1], fun z hz => ?_, fun i p hp => ?_⟩
          · rcases List.mem_append.1 hz with h7 | h7
            · exact h2 z h7
            · rw [List.mem_singleton.1 h7]; exact h4
          · by_cases hij : i < xs.length
            · rw [List.getElem?_append_left hij] at hp
              exact h3 i p hp
            · rw [List.getElem?_append_right (by omega)] at hp
              have : i = j := by
                have := (List.getElem?_eq_some_iff.1 hp).1
                simp at this; omega
              subst this
              rw [h1, Nat.sub_self] at hp
              simp at hp
              subst hp
              exact ⟨cs', h5, h6⟩
      obtain ⟨xs, h1, h2, h3⟩ := hlist len (Nat.le_refl _)
      subst h1
      refine ⟨xs, ⟨some a, cap, rfl, hl, rfl, by unfold maxLen at hm; omega, fun _ => ⟨a, rfl, fun j p hp => ?_⟩⟩, by omega, h2⟩
      obtain ⟨cs', h4, h5⟩ := h3 j p hp
      obtain ⟨h6, h7⟩ := cells_of h5
      refine ⟨cs', d.K_len h4, h4, fun i u hu => ?_⟩
      have := h7 i u hu
      rwa [Deep.add_add, hd.cells] at this
/-! ### Structs: their fields one behind the other -/
structure OpensFs {α : Type} (P : Program) (d : Kd α) (fs : List Field) (off : Nat) (wf : α → Prop) : Prop where
  opens : ∀ {H : Type} {enc : TypeId × Value → H} {w : World} {base : Nat} {spare : Nat → Bool} {held : Bool} {n : Nat} {cs : List Value},
    (∀ f ∈ fs, ∃ y, DataW.trod enc P w base spare held n f.type ((cs.drop f.offset).take (P.cellsOf f.type)) = some y) → ∃ x, d.K w x ((cs.drop off).take d.sz) ∧ wf x
theorem OpensFs.last {α : Type} {P : Program} {d : Kd α} {f : Field} {off : Nat} {wf : α → Prop} (h : Opens P d f.type wf) (ho : f.offset = off) : OpensFs P d [f] off wf where
  opens := fun hf => by
    obtain ⟨y, hy⟩ := hf f (by simp)
    rw [h.cells, ho] at hy
    exact h.opens hy
theorem OpensFs.cons {α β : Type} {P : Program} {d : Kd α} {d' : Kd β} {f : Field} {fs : List Field} {off : Nat} {wf : α → Prop} {wf' : β → Prop} (h : Opens P d f.type wf) (ho : f.offset = off) (h' : OpensFs P d' fs (off + d.sz) wf') :
    OpensFs P (Kd.pair d d') (f :: fs) off (fun x => wf x.1 ∧ wf' x.2) where
  opens := fun {H enc w base spare held n cs} hf => by
    obtain ⟨y, hy⟩ := hf f (by simp)
    rw [h.cells, ho] at hy
    obtain ⟨x, h1, h2⟩ := h.opens hy
    obtain ⟨x', h3, h4⟩ := h'.opens (cs := cs) fun g hg => hf g (by simp [hg])
    exact ⟨(x, x'), ⟨_, _, by rw [show (Kd.pair d d').sz = d.sz + d'.sz from rfl, List.take_add, List.drop_drop], h1, h3⟩, h2, h4⟩
theorem Opens.struct {α β : Type} {P : Program} {d : Kd α} {t : TypeId} {fs : Array Field} {wf : α → Prop} (ht : P.underlying t = some (.struct fs)) (h : OpensFs P d fs.toList 0 wf) (hc : P.cellsOf t = d.sz) (f : β → α) (g : α → β) (hfg : ∀ a, f (g a) = a) :
    Opens P (Kd.iso d f) t (fun x => wf (f x)) where
  cells := hc
  opens := fun {H enc w base spare held n cs y} hy => by
    obtain ⟨xs, m, _, _, hl, hn, hi⟩ := DataW.trod_struct ht hy
    obtain ⟨x, h1, h2⟩ := h.opens (cs := cs) (enc := enc) (n := m) fun f0 hf0 => by
      obtain ⟨i, hlt, rfl⟩ := List.mem_iff_getElem.1 hf0
      rw [Array.length_toList] at hlt
      have h3 := hi i fs[i] (Array.getElem?_eq_getElem hlt)
      have h4 : i < xs.length := by rw [hn]; exact hlt
      rw [List.getElem?_eq_getElem h4] at h3
      exact ⟨_, by simpa using h3⟩
    rw [List.drop_zero, List.take_of_length_le (by rw [hl, hc]; exact Nat.le_refl _)] at h1
    exact ⟨g x, by show d.K w (f (g x)) cs; rw [hfg]; exact h1, by rw [hfg]; exact h2⟩
/-! ### Arguments -/
section
variable {H : Type} {enc : TypeId × Value → H} {P : Program} {w : World} {base : Nat} {spare : Nat → Bool} {held : Bool} {r : Reach} {b0 : Nat} {t : TypeId} {v : Value} {dat : DataW H} {p : List MemPlace}
theorem Opens.arg_slice {α : Type} {d : Kd α} {e : TypeId} {wf : List α → Prop} (h : Opens P (Kd.slice e d) t wf) (ht : P.underlying t = some (.slice e)) (hv : Value.okWide P w r b0 t v) (hT : DataW.Trod enc P w base spare held t v dat p) :
    ∃ (A : Option Addr) (xs : List α) (c : Nat), v = .slice A xs.length c ∧ xs.length ≤ c ∧ d.C w A xs.length xs ∧ wf xs := by
  obtain ⟨a, len, cap, rfl⟩ := okWide_slice ht hv
  obtain ⟨fuel, hf⟩ := hT
  obtain ⟨xs, ⟨A, c, hcs, hle, hC⟩, hw⟩ := h.opens hf
  simp [Value.cells] at hcs
  obtain ⟨rfl, rfl, rfl⟩ := hcs
  exact ⟨_, xs, _, rfl, hle, hC, hw⟩
theorem Opens.arg_struct {α : Type} {d : Kd α} {fs : Array Field} {wf : α → Prop} (h : Opens P d t wf) (ht : P.underlying t = some (.struct fs)) (hv : Value.okWide P w r b0 t v) (hT : DataW.Trod enc P w base spare held t v dat p) :
    ∃ (x : α) (cs : List Value), v = .agg cs.toArray ∧ d.K w x cs ∧ wf x := by
  obtain ⟨cs, rfl, _⟩ := okWide_struct ht hv
  obtain ⟨fuel, hf⟩ := hT
  obtain ⟨x, h1, h2⟩ := h.opens hf
  exact ⟨x, cs.toList, by simp, h1, h2⟩
end
end Go.Proofs.YtladpdeneiaaeaaDoorW.PrintWords
