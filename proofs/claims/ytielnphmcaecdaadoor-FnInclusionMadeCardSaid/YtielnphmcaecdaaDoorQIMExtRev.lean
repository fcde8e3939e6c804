-- Written by a program of this session (wip/tools)
import Derived.Test.YtielnphmcaecdaaDoorQIMPAllx0
import Derived.Outline
import Derived.Deep.QuietTactic
import Derived.BigQuiet
namespace Go.Proofs.YtielnphmcaecdaaDoor.PAll
open Go.RowKit Go.Proofs.YtielnphmcaecdaaDoorW.PrintWords Go.Proofs.YtielnphmcaecdaaDoorW.PrintLast Go.Proofs.YtielnphmcaecdaaDoorW.PrintMore
set_option linter.unusedVariables false
theorem k99_cell {W : World} {base g n cap : Nat} {ok : Nat → Prop} {xs : List S99} {x : S99} {i : Nat} (h : Kd.R k99 99 W base ok (.slice (some ⟨g, 0, none⟩) n cap) xs) (hi : xs[i]? = some x) :
    W.cell? ⟨g, i * 2, none⟩ = some (.int .u64 x.f0) ∧ W.cell? ⟨g, i * 2 + 1, none⟩ = some (.int .u64 x.f1) ∧ W.frozen? ⟨g, i * 2, none⟩ = false ∧ W.frozen? ⟨g, i * 2 + 1, none⟩ = false := by
  have hl := (List.getElem?_eq_some_iff.1 hi).1
  have hn := (Kd.R_reads' h).1
  obtain ⟨c, hcl, hM, hcc, hfr⟩ := Kd.R_elem h x (i : Int) (by omega) (by omega)
  rw [Int.toNat_natCast] at hM hcc hfr
  have e : xs.getD i x = x := by rw [List.getD_eq_getElem?_getD, hi]; rfl
  rw [e] at hM
  obtain rfl := k99_openM hM
  exact ⟨hcc 0 _ rfl, hcc 1 _ rfl, hfr 0, hfr 1⟩
theorem k99_put {W : World} {base g n cap : Nat} {ok : Nat → Prop} {xs : List S99} {i : Nat} (h : Kd.R k99 99 W base ok (.slice (some ⟨g, 0, none⟩) n cap) xs) (hi : i < n) (y : S99) :
    Kd.R k99 99 ((W.setCell ⟨g, i * 2, none⟩ (.int .u64 y.f0)).setCell ⟨g, i * 2 + 1, none⟩ (.int .u64 y.f1)) base ok (.slice (some ⟨g, 0, none⟩) n cap) (xs.set i y) := by
  obtain ⟨c, hcl, hM, hcc, hfr⟩ := Kd.R_elem h y (i : Int) (by omega) (by omega)
  have S := Kd.R_seg h (i : Int) (by omega) (by omega) (seg := [.int .u64 y.f0, .int .u64 y.f1]) (j := 0) (okp := fun _ => False) hcl hcc (Nat.le_refl 2) (x' := y) (by
    have : c.length = 2 := hcl
    rw [List.take_zero, List.nil_append, List.drop_of_length_le (by simp; omega), List.append_nil]
    exact k99_mkM _ _ _ y) (fun _ h => h.elim)
  rw [Int.toNat_natCast] at S
  exact S.1
theorem grown_set {W : World} {g o : Nat} {v : Value} : W.grownBy (W.setCell ⟨g, o, none⟩ v) (some g) :=
  ⟨rfl, rfl, rfl, by rw [World.size_setCell]; exact Nat.le_refl _, fun k _ hk => Below.heap_setCell W ⟨g, o, none⟩ v k (fun e => hk (by rw [e]))⟩
theorem grown_trans {a b c : World} {row : Option Nat} (h : a.grownBy b row) (k : b.grownBy c row) : a.grownBy c row :=
  ⟨k.os.trans h.os, k.tape.trans h.tape, k.output.trans h.output, Nat.le_trans h.size k.size, fun i hi hne => (k.block i (Nat.lt_of_lt_of_le hi h.size) hne).trans (h.block i hi hne)⟩
theorem grown_refl (w : World) (row : Option Nat) : w.grownBy w row := ⟨rfl, rfl, rfl, Nat.le_refl _, fun _ _ _ => rfl⟩
theorem grown_drew {a b : World} {row : Option Nat} (h : a.grownBy b row) : a.grownBy b.drew row := ⟨h.os, h.tape, h.output, h.size, h.block⟩
def Rev (xs cur : List S99) (m N t : Nat) : Prop := cur.length = xs.length ∧ (∀ p, p < m → cur[p]? = xs[p]?) ∧ ∀ p, p < N → cur[m + p]? = if p < t ∨ N - t ≤ p then xs[m + (N - 1 - p)]? else xs[m + p]?
theorem Rev.zero (xs : List S99) (m N : Nat) : Rev xs xs m N 0 := ⟨rfl, fun _ _ => rfl, fun p hp => by rw [if_neg (by omega)]⟩
theorem Rev.done {xs cur : List S99} {m N t : Nat} (h : Rev xs cur m N t) (hl : xs.length = m + N) (ht : N ≤ 2 * t + 1) : cur = xs.take m ++ (xs.drop m).reverse := by
  obtain ⟨h1, h2, h3⟩ := h
  apply List.ext_getElem?
  intro p
  by_cases hp : p < m
  · rw [List.getElem?_append_left (by rw [List.length_take]; omega), List.getElem?_take_of_lt hp]
    exact h2 p hp
  · rw [List.getElem?_append_right (by rw [List.length_take]; omega), List.length_take, Nat.min_eq_left (by omega)]
    by_cases hq : p < m + N
    · obtain ⟨q, rfl⟩ : ∃ q, p = m + q := ⟨p - m, by omega⟩
      rw [h3 q (by omega), Nat.add_sub_cancel_left, List.getElem?_reverse (by rw [List.length_drop]; omega), List.getElem?_drop, List.length_drop]
      split
      · congr 1; omega
      · congr 1; omega
    · rw [List.getElem?_eq_none (by omega), List.getElem?_eq_none (by rw [List.length_reverse, List.length_drop]; omega)]
theorem Rev.next {xs cur : List S99} {m N t : Nat} {a b : S99} (h : Rev xs cur m N t) (hl : xs.length = m + N) (ht : 2 * t + 1 < N) (ha : cur[m + t]? = some a) (hb : cur[m + (N - 1 - t)]? = some b) : Rev xs ((cur.set (m + t) b).set (m + (N - 1 - t)) a) m N (t + 1) := by
  obtain ⟨h1, h2, h3⟩ := h
  refine ⟨by rw [List.length_set, List.length_set]; exact h1, fun p hp => by rw [List.getElem?_set_ne (by omega), List.getElem?_set_ne (by omega)]; exact h2 p hp, fun p hp => ?_⟩
  have ea := h3 t (by omega)
  rw [if_neg (by omega), ha] at ea
  have eb := h3 (N - 1 - t) (by omega)
  rw [if_neg (by omega), hb] at eb
  by_cases e1 : p = N - 1 - t
  · subst e1
    rw [List.getElem?_set_self (by rw [List.length_set]; omega), if_pos (by omega), ea]
    congr 1; omega
  · rw [List.getElem?_set_ne (by omega)]
    by_cases e2 : p = t
    · subst e2
      rw [List.getElem?_set_self (by omega), if_pos (by omega), eb]
    · rw [List.getElem?_set_ne (by omega), h3 p hp]
      by_cases c : p < t ∨ N - t ≤ p
      · rw [if_pos c, if_pos (by omega)]
      · rw [if_neg c, if_neg (by omega)]
set_option maxHeartbeats 16000000 in
set_option maxRecDepth 100000 in
theorem reverse.calls (g n cap m N c : Nat) (xs : List S99) (W : World) (base : Nat) (ok : Nat → Prop) (hR : Kd.R k99 99 W base ok (.slice (some ⟨g, 0, none⟩) n cap) xs) (hn : n = m + N) (hN : 0 < N) (hl : N ≤ 100000) :
    Calls Tryd.prog 115 #[.slice (some ⟨g, m * 2, none⟩) N c] W fun e w' => e = .returned (.tuple #[]) ∧ Kd.R k99 99 w' base ok (.slice (some ⟨g, 0, none⟩) n cap) (xs.take m ++ (xs.drop m).reverse) ∧ W.grownBy w' (some g) := by
  have hxl : xs.length = m + N := by rw [← hn]; exact (Kd.R_reads' hR).1.symm
  have HR := Aside0.mk hR
  have HN := Aside0.mk hn
  have HXL := Aside0.mk hxl
  have HPOS := Aside0.mk hN
  have hl1 : (N : Int) ≤ 100000 := by omega
  have hl0 : 0 ≤ (N : Int) := by omega
  clear hR hn hxl hN hl
  go_enter Tryd.func115, Tryd.ntmps115
  go_wp2
  try simp only [Act.put, List.setIfInBounds_toArray, List.set_cons_zero, List.set_cons_succ]
  go_loopg [2, 3] (N / 2) (fun kq v2 v3 w' => ∃ (t : Nat) (cur : List S99), v2 = .int .i64 (t : Int) ∧ v3 = .int .i64 ((N : Int) - 1 - (t : Int)) ∧ Aside0 (t + kq = N / 2) ∧ Aside0 (Rev xs cur m N t) ∧ Aside0 (Kd.R k99 99 w' base ok (.slice (some ⟨g, 0, none⟩) n cap) cur) ∧ Aside0 (W.grownBy w' (some g)))
  case atStart => exact ⟨0, xs, rfl, by congr 1; omega, ⟨by omega⟩, ⟨Rev.zero _ _ _⟩, HR, ⟨grown_refl _ _⟩⟩
  case round =>
    clear HR
    obtain ⟨t, cur, rfl, rfl, HT, HC, HR, HG⟩ := hrel
    cases gk with
    | zero =>
      have b0 : decide ((t : Int) < (N : Int) - 1 - (t : Int)) = false := decide_eq_false (by have := HT.out; omega)
      have ecur := HC.out.done HXL.out (by have := HT.out; omega)
      subst ecur
      go_wp2
      go_end0
      exact ⟨rfl, HR.out, HG.out⟩
    | succ k1 =>
      have ht : 2 * t + 1 < N := by have := HT.out; omega
      obtain ⟨j, hj⟩ : ∃ j, j = N - 1 - t := ⟨_, rfl⟩
      rw [show (N : Int) - 1 - (t : Int) = (j : Int) by omega]
      have hcl : cur.length = m + N := by rw [HC.out.1]; exact HXL.out
      obtain ⟨a, ha⟩ : ∃ a, cur[m + t]? = some a := ⟨_, List.getElem?_eq_getElem (by omega)⟩
      obtain ⟨b, hb⟩ : ∃ b, cur[m + j]? = some b := ⟨_, List.getElem?_eq_getElem (by omega)⟩
      obtain ⟨x1, x2, f1, f2⟩ := k99_cell HR.out ha
      obtain ⟨y1, y2, g1, g2⟩ := k99_cell HR.out hb
      rw [Nat.add_mul] at x1 x2 f1 f2 y1 y2 g1 g2
      have b0 : decide ((t : Int) < (j : Int)) = true := decide_eq_true (by omega)
      have b1 : decide (t < j) = true := decide_eq_true (by omega)
      have d0 : 0 ≤ (t : Int) := by omega
      have d1 : (t : Int) < (N : Int) := by omega
      have d2 : decide ((t : Int) < (N : Int)) = true := decide_eq_true d1
      have d3 : decide (t < N) = true := decide_eq_true (by omega)
      have e0 : 0 ≤ (j : Int) := by omega
      have e1 : (j : Int) < (N : Int) := by omega
      have e2 : decide ((j : Int) < (N : Int)) = true := decide_eq_true e1
      have e3 : decide (j < N) = true := decide_eq_true (by omega)
      have hR1 := k99_put HR.out (i := m + t) (by have := HN.out; omega) b
      obtain ⟨z1, z2, w1, w2⟩ := k99_cell hR1 (i := m + j) (x := b) (by rw [List.getElem?_set_ne (by omega)]; exact hb)
      have hR2 := k99_put hR1 (i := m + j) (by have := HN.out; omega) a
      rw [Nat.add_mul, Nat.add_mul] at z1 z2 w1 w2
      have z3 := (World.cell?_setCell_other _ ⟨g, m * 2 + j * 2, none⟩ ⟨g, m * 2 + j * 2 + 1, none⟩ (.int .u64 a.f0) (by simp)).trans z2
      have w3 : World.frozen? (World.setCell _ ⟨g, m * 2 + j * 2, none⟩ (.int .u64 a.f0)) ⟨g, m * 2 + j * 2 + 1, none⟩ = false := (World.frozen?_setCell _ _ _ _).trans w2
      have HR2 := Aside0.mk hR2
      clear hR1 hR2
      have HJ := Aside0.mk hj
      have HTT := Aside0.mk ht
      have HA := Aside0.mk ha
      have HBB := Aside0.mk hb
      clear hj ht hcl ha hb
      go_wp2
      go_region
      all_goals go_wp2
      go_roundg k1
      case measure => omega
      case rel =>
        refine ⟨t + 1, (cur.set (m + t) b).set (m + j) a, rfl, by have := HJ.out; congr 1; omega, ⟨by have := HT.out; omega⟩, ⟨?_⟩, ⟨?_⟩, ⟨?_⟩⟩
        · have e := HJ.out
          subst e
          exact Rev.next HC.out HXL.out HTT.out HA.out HBB.out
        · have h := Kd.R_drew HR2.out
          rw [Nat.add_mul, Nat.add_mul] at h
          exact h
        · exact grown_drew (grown_trans HG.out (grown_trans grown_set (grown_trans grown_set (grown_trans grown_set grown_set))))
end Go.Proofs.YtielnphmcaecdaaDoor.PAll
