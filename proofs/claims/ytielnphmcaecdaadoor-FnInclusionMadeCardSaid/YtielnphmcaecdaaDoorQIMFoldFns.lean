-- Written by a program of this session (wip/tools)
import Derived.Test.YtielnphmcaecdaaDoorQIMExtHashes
import Derived.Test.YtielnphmcaecdaaDoorQIMExtFold
import Derived.Test.YtielnphmcaecdaaDoorQIMTexts
import Derived.Test.YtielnphmcaecdaaDoorQIMPAllx20
namespace Go.Proofs.YtielnphmcaecdaaDoor.PAll
open Go.RowKit Go.Proofs.YtielnphmcaecdaaDoor.Num Go.Proofs.YtielnphmcaecdaaDoor.Mth Go.Proofs.YtielnphmcaecdaaDoor.Hsh Go.Proofs.YtielnphmcaecdaaDoorW.PrintWords Go.Proofs.YtielnphmcaecdaaDoorW.PrintLast
set_option linter.unusedVariables false
set_option linter.unusedSimpArgs false
def bord (H : List Int → List Int → List Int) : List (List Int) → List Int → List Int
  | [], s => s
  | x :: xs, s => bord H xs (H x s)
theorem bord_append (H : List Int → List Int → List Int) : ∀ l m s, bord H (l ++ m) s = bord H m (bord H l s)
  | [], _, _ => rfl
  | x :: l, m, s => bord_append H l m _
theorem bord_le {H : List Int → List Int → List Int} (hH : ∀ l r, (H l r).length ≤ 9 + l.length + r.length) (m : Nat) : ∀ (l : List (List Int)) (s : List Int), (∀ x ∈ l, x.length ≤ m) → (bord H l s).length ≤ s.length + (m + 9) * l.length
  | [], s, _ => by simp [bord]
  | x :: l, s, h => by
    have h1 := bord_le hH m l (H x s) (fun y hy => h y (List.mem_cons_of_mem _ hy))
    have h2 := hH x s
    have h3 := h x List.mem_cons_self
    rw [bord, List.length_cons, Nat.mul_succ]; omega
theorem upB_eq (F : List Int → List Int → Option (List Int)) (H : List Int → List Int → List Int) (hH : ∀ l r, (H l r).length ≤ 9 + l.length + r.length) (hF : ∀ l r, l.length ≤ 1000000000 → r.length ≤ 1000000000 → F l r = some (H l r)) (m : Nat) (hm : m ≤ 1000000000) :
    ∀ (l : List (List Int)) (s : List Int), (∀ x ∈ l, x.length ≤ m) → s.length + (m + 9) * l.length ≤ 1000000000 → upB_ F l s = some (bord H l s)
  | [], s, _, _ => rfl
  | x :: l, s, h, hs => by
    have h2 := hH x s
    have h3 := h x List.mem_cons_self
    rw [List.length_cons, Nat.mul_succ] at hs
    rw [upB_, hF x s (by omega) (by omega), Option.bind_some]
    exact upB_eq F H hH hF m hm l (H x s) (fun y hy => h y (List.mem_cons_of_mem _ hy)) (by omega)
theorem impl_H (a0 a1 a2 a3 a4 a5 : Int) {k : Nat} (hk : 2000000100 ≤ k) : ∀ l r : List Int, l.length ≤ 1000000000 → r.length ≤ 1000000000 → impl_toy_HashChildren.f k a0 a1 a2 a3 a4 a5 l r = some (hash a0 a2 a5 l r) :=
  fun l r hl hr => impl_hash a0 a1 a2 a3 a4 a5 l r (by omega) (by omega) (by omega)
def folded (H : List Int → List Int → List Int) (b e : Nat) (l : List (List Int)) : List (List Int) := if b < e then l.take b ++ bord H ((l.take e).drop (b + 1)) (l.getD b []) :: l.drop e else l
theorem folded_rehL (H : List Int → List Int → List Int) (b e : Nat) (l : List (List Int)) : folded H b e l = rehL b e l (bord H ((l.take e).drop (b + 1)) (l.getD b [])) := rfl
theorem folded_le {H : List Int → List Int → List Int} (hH : ∀ l r, (H l r).length ≤ 9 + l.length + r.length) {m : Nat} (b e : Nat) {l : List (List Int)} (h : ∀ x ∈ l, x.length ≤ m) : (folded H b e l).length ≤ l.length + 1 ∧ ∀ x ∈ folded H b e l, x.length ≤ m + (m + 9) * l.length := by
  unfold folded
  split
  · have hb : (l.getD b []).length ≤ m := by
      by_cases hl : b < l.length
      · rw [List.getD_eq_getElem?_getD, List.getElem?_eq_getElem hl]; exact h _ (List.getElem_mem hl)
      · rw [List.getD_eq_getElem?_getD, List.getElem?_eq_none (by omega)]; exact Nat.zero_le _
    refine ⟨by simp only [List.length_append, List.length_cons, List.length_take, List.length_drop]; omega, fun x hx => ?_⟩
    rcases List.mem_append.1 hx with h1 | h1
    · exact Nat.le_trans (h x (List.mem_of_mem_take h1)) (Nat.le_add_right _ _)
    · rcases List.mem_cons.1 h1 with h2 | h2
      · subst h2
        have h3 := bord_le hH m ((l.take e).drop (b + 1)) (l.getD b []) (fun y hy => h y (List.mem_of_mem_take (List.mem_of_mem_drop hy)))
        have h4 : ((l.take e).drop (b + 1)).length ≤ l.length := by rw [List.length_drop, List.length_take]; omega
        have := Nat.mul_le_mul_left (m + 9) h4
        omega
      · exact Nat.le_trans (h x (List.mem_of_mem_drop h2)) (Nat.le_add_right _ _)
  · exact ⟨by omega, fun x hx => Nat.le_trans (h x hx) (Nat.le_add_right _ _)⟩
theorem texts_mem (l : List (List Int)) (hl : l.length ≤ 2147483647) (hb : ∀ x ∈ l, x.length ≤ 2147483647) {k : Nat} (hk : l.length < k) : impl_texts.f k l = some l :=
  texts_eq l hl (fun j hj => by rw [List.getD_eq_getElem?_getD, List.getElem?_eq_getElem hj]; exact hb _ (List.getElem_mem hj)) hk
theorem hashF_yes (a0 a1 a2 a3 a4 a5 : Int) (n b e m : Nat) (l : List (List Int)) (hn : l.length = n) (hl : l.length ≤ 10000) (hm : (m + 9) * (l.length + 1) ≤ 1000000000) (hb : ∀ x ∈ l, x.length ≤ m) {K : Nat} (hK : 3000000000 ≤ K) :
    hashF K a0 a1 a2 a3 a4 a5 n b e l = some (folded (hash a0 a2 a5) b e l, true) := by
  obtain ⟨f1, f2⟩ := folded_le (hash_le a0 a2 a5) b e hb
  have hml : (m + 9) * l.length ≤ 1000000000 - m - 9 := by rw [Nat.mul_add, Nat.mul_one] at hm; omega
  have hm1 : m + 9 ≤ 1000000000 := by rw [Nat.mul_add, Nat.mul_one] at hm; omega
  unfold hashF
  rw [texts_mem l (by omega) (fun x hx => by have := hb x hx; omega) (by omega), Option.bind_some, if_pos hn]
  by_cases h : b < e
  · rw [if_pos h]
    have hbs : (l.getD b []).length ≤ m := by
      by_cases hl : b < l.length
      · rw [List.getD_eq_getElem?_getD, List.getElem?_eq_getElem hl]; exact hb _ (List.getElem_mem hl)
      · rw [List.getD_eq_getElem?_getD, List.getElem?_eq_none (by omega)]; exact Nat.zero_le _
    have h4 : ((l.take e).drop (b + 1)).length ≤ l.length := by rw [List.length_drop, List.length_take]; omega
    have h5 := Nat.mul_le_mul_left (m + 9) h4
    rw [upB_eq _ _ (hash_le a0 a2 a5) (impl_H a0 a1 a2 a3 a4 a5 (by omega)) m (by omega) _ _ (fun y hy => hb y (List.mem_of_mem_take (List.mem_of_mem_drop hy))) (by omega), Option.bind_some, ← folded_rehL, texts_mem _ (by omega) (fun x hx => by have := f2 x hx; omega) (by omega)]
    rfl
  · have e1 : ∀ f, rehL b e l f = folded (hash a0 a2 a5) b e l := fun f => by unfold rehL folded; rw [if_neg h, if_neg h]
    rw [if_neg h, Option.bind_some, e1, texts_mem _ (by omega) (fun x hx => by have := f2 x hx; omega) (by omega)]
    rfl
end Go.Proofs.YtielnphmcaecdaaDoor.PAll
