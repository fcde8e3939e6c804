import Derived.Test.YtladpdeneiaaeaaDoorWWords
import Derived.Test.YtladpdeneiaaeaaDoorWMore
import Derived.Test.YtladpdeneiaaeaaDoorInvMath
/-! A matrix of the call's own in memory: its rows lie apart; two rows change places, an entry is written. -/
namespace Go.Proofs.YtladpdeneiaaeaaDoor.Inv
open Go.RowKit Go.Proofs.YtladpdeneiaaeaaDoorW.PrintWords Go.Proofs.YtladpdeneiaaeaaDoorW.PrintLast Go.Proofs.YtladpdeneiaaeaaDoorW.PrintMore
set_option linter.unusedVariables false
abbrev kr : Kd (List Int) := Kd.slice 5 (Kd.int .u8)
/-- The matrix xs lies in memory, its headers in block g. -/
def At (W : World) (base g n cap : Nat) (xs : Mat) : Prop := Kd.S kr 25 W base (fun _ => True) (.slice (some ⟨g, 0, none⟩) n cap) xs
section
variable {W w1 : World} {base g n cap : Nat} {xs : Mat}
theorem At.len (h : At W base g n cap xs) : n = xs.length := (Kd.R_reads' (Kd.S_R h)).1
theorem At.below (h : At W base g n cap xs) (hb : Below W.heap.size W w1) : At w1 base g n cap xs := Kd.S_below h hb
theorem At.drew (h : At W base g n cap xs) : At W.drew base g n cap xs := Kd.S_drew h
theorem At.drewN (h : At W base g n cap xs) (m : Nat) : At (W.drewN m) base g n cap xs := Kd.S_drewN h m
theorem At.head (h : At W base g n cap xs) : base ≤ g := Kd.S_base h g (by simp [Value.ownBlock])
theorem drop_take_one (l : List Value) (j : Nat) (u : Value) (h : l[j]? = some u) : (l.drop (j * 1)).take 1 = [u] := by
  rw [Nat.mul_one]
  obtain ⟨hj, rfl⟩ := List.getElem?_eq_some_iff.1 h
  rw [List.drop_eq_getElem_cons hj]
  rfl
theorem getD_some {α : Type} {l : List α} {i : Nat} (h : i < l.length) (d : α) : l[i]? = some (l.getD i d) := by
  rw [List.getD_eq_getElem?_getD, List.getElem?_eq_getElem h]; rfl
/-- Two rows change places: first q is written, then p. -/
theorem At.swap (h : At W base g n cap xs) {p q : Nat} (hp : p < n) (hq : q < n) :
    ∃ u v, W.cell? ⟨g, p, none⟩ = some u ∧ W.cell? ⟨g, q, none⟩ = some v ∧ (∃ A c, u = .slice A (xs.getD p []).length c) ∧ (∃ A c, v = .slice A (xs.getD q []).length c) ∧ W.frozen? ⟨g, p, none⟩ = false ∧ W.frozen? ⟨g, q, none⟩ = false ∧
      (∃ t, (W.setCell ⟨g, q, none⟩ u).cell? ⟨g, p, none⟩ = some t) ∧ (W.setCell ⟨g, q, none⟩ u).frozen? ⟨g, p, none⟩ = false ∧
      At ((W.setCell ⟨g, q, none⟩ u).setCell ⟨g, p, none⟩ v) base g n cap (swp2 xs p q) := by
  have hlen := h.len
  obtain ⟨f, hok0, inner, ho, hr⟩ := h
  rw [List.length_zipIdx, ← hlen, show (Kd.tag f kr).sz = 1 from rfl] at ho
  have hil : inner.length = n := by have := ho.1; omega
  have el : ∀ j, j < n → ∃ A c, inner.getD j default = .slice A (xs.getD j []).length c := fun j hj => by
    have hm := hr.2 j (xs.getD j [], j) (Kd.zip_at (getD_some (by omega) []))
    obtain ⟨v, e1, gv⟩ := hm
    rw [show (Kd.tag f kr).sz = 1 from rfl, drop_take_one inner j _ (getD_some (by omega) default)] at e1
    obtain rfl := (List.cons.inj e1).1
    exact Kd.R_slice gv
  have x1 := ho.cellAt p (by omega)
  have x2 := ho.cellAt q (by omega)
  rw [getD_some (by omega : p < inner.length) default] at x1
  rw [getD_some (by omega : q < inner.length) default] at x2
  obtain ⟨o1, g1⟩ := ho.stored q (inner.getD p default)
  obtain ⟨o2, g2⟩ := o1.stored p (inner.getD q default)
  have x3 := o1.cellAt p (by omega)
  rw [getD_some (by rw [List.length_set]; omega) default] at x3
  refine ⟨_, _, x1, x2, el p hp, el q hq, ho.frozenAt p, ho.frozenAt q, ⟨_, x3⟩, o1.frozenAt p, ?_⟩
  have hfar : ∀ k, some k ≠ (Value.slice (some ⟨g, 0, none⟩) n cap).ownBlock → ((W.setCell ⟨g, q, none⟩ (inner.getD p default)).setCell ⟨g, p, none⟩ (inner.getD q default)).heap[k]? = W.heap[k]? := fun k hk => by
    have hk2 : k ≠ g := fun e => hk (by rw [e]; simp [Value.ownBlock])
    rw [Below.heap_setCell _ ⟨g, p, none⟩ _ k hk2, Below.heap_setCell _ ⟨g, q, none⟩ _ k hk2]
  refine ⟨fun k => if f k = p then q else if f k = q then p else f k, fun k hk => trivial, _, by rw [List.length_zipIdx, swp2_len, ← hlen]; exact o2, ?_, fun j pr hj => ?_⟩
  · rw [List.length_zipIdx, swp2_len, List.length_set, List.length_set, hil, hlen, show (Kd.tag (fun k => if f k = p then q else if f k = q then p else f k) kr).sz = 1 from rfl, Nat.mul_one]
  · rw [List.getElem?_zipIdx, Nat.zero_add] at hj
    obtain ⟨x, hx, rfl⟩ := Option.map_eq_some_iff.1 hj
    have hjl : j < n := by have := (List.getElem?_eq_some_iff.1 hx).1; rw [swp2_len] at this; omega
    have hx2 : x = (swp2 xs p q).getD j [] := by rw [List.getD_eq_getElem?_getD, hx]; rfl
    rw [swp2_at xs p q j (by omega) (by omega)] at hx2
    have key : ∀ s, s < n → (∀ k, f k = s → (if f k = p then q else if f k = q then p else f k) = j) → x = xs.getD s [] → ((inner.set q (inner.getD p default)).set p (inner.getD q default))[j]? = some (inner.getD s default) →
        (Kd.tag (fun k => if f k = p then q else if f k = q then p else f k) kr).M ((W.setCell ⟨g, q, none⟩ (inner.getD p default)).setCell ⟨g, p, none⟩ (inner.getD q default)) base (fun k => True ∧ some k ≠ (Value.slice (some ⟨g, 0, none⟩) n cap).ownBlock) (x, j) ((((inner.set q (inner.getD p default)).set p (inner.getD q default)).drop (j * (Kd.tag (fun k => if f k = p then q else if f k = q then p else f k) kr).sz)).take (Kd.tag (fun k => if f k = p then q else if f k = q then p else f k) kr).sz) := by
      intro s hs hf hxs hin
      have hm := hr.2 s (xs.getD s [], s) (Kd.zip_at (getD_some (by omega) []))
      rw [show (Kd.tag f kr).sz = 1 from rfl, drop_take_one inner s _ (getD_some (by omega) default)] at hm
      rw [show (Kd.tag (fun k => if f k = p then q else if f k = q then p else f k) kr).sz = 1 from rfl, drop_take_one _ j _ hin, hxs]
      refine kr.M_mono ?_ (kr.M_move (fun k hk => hfar k hk.1.2) hm)
      exact fun k hk => ⟨hk.1, hf k hk.2⟩
    by_cases c1 : j = p
    · rw [if_pos c1] at hx2
      refine key q hq (fun k hk => ?_) hx2 ?_
      · rw [hk]
        by_cases c2 : q = p
        · rw [if_pos c2, c1, c2]
        · rw [if_neg c2, if_pos rfl, c1]
      · rw [c1, List.getElem?_set_self (by rw [List.length_set]; omega)]
    · rw [if_neg c1] at hx2
      by_cases c2 : j = q
      · rw [if_pos c2] at hx2
        refine key p hp (fun k hk => by rw [if_pos hk, c2]) hx2 ?_
        rw [List.getElem?_set_ne (by omega), c2, List.getElem?_set_self (by omega)]
      · rw [if_neg c2] at hx2
        refine key j hjl (fun k hk => by rw [hk, if_neg c1, if_neg c2]) hx2 ?_
        rw [List.getElem?_set_ne (by omega), List.getElem?_set_ne (by omega)]
        exact getD_some (by omega) default
/-- Row i: its header, its entries, and what an entry's being written leaves. -/
theorem At.row (h : At W base g n cap xs) {i : Nat} (hi : i < n) (hL : 0 < (xs.getD i []).length) :
    ∃ g' c', W.cell? ⟨g, i, none⟩ = some (.slice (some ⟨g', 0, none⟩) (xs.getD i []).length c') ∧ (base ≤ g' ∧ g' ≠ g) ∧ (xs.getD i []).length ≤ 9223372036854775807 ∧
      (∀ c, c < (xs.getD i []).length → W.cell? ⟨g', c, none⟩ = some (.int .u8 ((xs.getD i []).getD c 0)) ∧ W.frozen? ⟨g', c, none⟩ = false) ∧
      ∀ m c y, c < (xs.getD i []).length → At ((W.drewN m).setCell ⟨g', c, none⟩ (.int .u8 y)) base g n cap (xs.set i ((xs.getD i []).set c y)) := by
  obtain ⟨oki, ce, hcl, hM, hcc, hoki, hback⟩ := Kd.S_borrow h [] (i : Int) (Int.natCast_nonneg i) (by omega)
  rw [Int.toNat_natCast] at hM hcc
  obtain ⟨v, rfl, gv⟩ := hM
  obtain ⟨g', c', rfl, hb, hlt, cells, hblk⟩ := Kd.R_form gv hL
  have hx := hcc 0 _ rfl
  rw [show kr.sz = 1 from rfl, Nat.mul_one, Nat.add_zero, add_plain] at hx
  refine ⟨g', c', hx, ⟨hb, fun e => (hoki g' (gv.1 g' (by simp [Value.ownBlock]))).2 (by rw [e]; simp [Value.ownBlock])⟩, Kd.C_max (Kd.R_reads' gv).2.2, fun c hc => ?_, fun m c y hc => ?_⟩
  · have := Kd.R_cell (0 : Int) gv (c : Int) (Int.natCast_nonneg c) (by omega)
    rw [Int.toNat_natCast] at this
    exact this
  · obtain ⟨oki2, ce2, hcl2, hM2, hcc2, hoki2, hback2⟩ := Kd.S_borrow (h.drewN m) [] (i : Int) (Int.natCast_nonneg i) (by omega)
    rw [Int.toNat_natCast] at hM2 hcc2
    obtain ⟨v2, rfl, gv2⟩ := hM2
    have hx2 := hcc2 0 _ rfl
    rw [show kr.sz = 1 from rfl, Nat.mul_one, Nat.add_zero, add_plain] at hx2
    obtain rfl := Option.some.inj (hx2.symm.trans (pw_cell_below (pw_below_drewN (Below.refl _ _) m) hx))
    obtain ⟨p1, p2⟩ := Kd.R_put gv2 (c : Int) y
    rw [Int.toNat_natCast] at p1 p2
    have hg' : oki2 g' := gv2.1 g' (by simp [Value.ownBlock])
    have := hback2 p2 (fun k hk => by injection hk with hk; rw [← hk]; exact hg') ⟨_, rfl, by rw [show (xs.getD i []).length = ((xs.getD i []).set c y).length by rw [List.length_set]] at p1 ⊢; exact p1⟩
    rw [Int.toNat_natCast] at this
    exact this
/-- Behind a draw and a store into a row the headers are as they were. -/
theorem cell_keep {r c m : Nat} {g' : Nat} {v u : Value} (h : W.cell? ⟨g, r, none⟩ = some v) (hne : g' ≠ g) : ((W.drewN m).setCell ⟨g', c, none⟩ u).cell? ⟨g, r, none⟩ = some v := by
  rw [World.cell?_of_block (a := ⟨g, r, none⟩) (Below.heap_setCell _ ⟨g', c, none⟩ u g (fun e => hne e.symm))]
  exact (pw_cell_below (pw_below_drewN (Below.refl _ _) m) h)
/-- Its reading. -/
theorem At.reads (h : At W base g n cap xs) : n = xs.length ∧ n ≤ cap ∧ Kd.C kr W (some ⟨g, 0, none⟩) n xs := by
  obtain ⟨h1, h2, h3⟩ := Kd.S_reads' h
  exact ⟨h1, h2, by rw [h1]; exact h3⟩
end
end Go.Proofs.YtladpdeneiaaeaaDoor.Inv
