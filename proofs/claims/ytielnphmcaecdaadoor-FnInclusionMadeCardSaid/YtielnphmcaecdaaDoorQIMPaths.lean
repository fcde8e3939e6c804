-- Written by a program of this session (wip/tools)
import Derived.Test.YtielnphmcaecdaaDoorQIMPAllx6
import Derived.Test.YtielnphmcaecdaaDoorQIMPAllx12
import Derived.Test.YtielnphmcaecdaaDoorQIMBits
namespace Go.Proofs.YtielnphmcaecdaaDoor.PAll
open Go.RowKit Go.Proofs.YtielnphmcaecdaaDoor.Num Go.Proofs.YtielnphmcaecdaaDoor.Mth Go.Proofs.YtielnphmcaecdaaDoorW.PrintWords Go.Proofs.YtielnphmcaecdaaDoorW.PrintLast
theorem split_loop (n : Nat) (hn : n < 18446744073709551616) (d : Nat) : ∀ (j k : Nat), 2 ^ j < n → blen (n - 1) = j + 1 + d → d < k → spec_split.l0 k (n : Int) ((2 ^ j : Nat) : Int) = some ((psplit n : Nat) : Int) := by
  induction d with
  | zero =>
    intro j k h1 h2 hk
    obtain ⟨k, rfl⟩ : ∃ m, k = m + 1 := ⟨k - 1, by omega⟩
    have h3 : n - 1 < 2 ^ (j + 1) := blen_le.1 (by omega)
    rw [Nat.pow_succ] at h3
    have e : psplit n = 2 ^ j := psplit_unique h1 (by omega)
    rw [spec_split.l0, u64sub (by omega) hn, if_neg (by omega), e]
  | succ d ih =>
    intro j k h1 h2 hk
    obtain ⟨k, rfl⟩ : ∃ m, k = m + 1 := ⟨k - 1, by omega⟩
    have h3 : ¬ n - 1 < 2 ^ (j + 1) := fun h => by have := blen_le.2 h; omega
    have h4 := Nat.pow_succ 2 j
    have e : IntKind.u64.wrap (((2 ^ j : Nat) : Int) * 2) = ((2 ^ (j + 1) : Nat) : Int) := by
      rw [h4]; exact u64mul (a := 2 ^ j) (b := 2) (by omega)
    rw [spec_split.l0, u64sub (by omega) hn, if_pos (by omega), e]
    exact ih (j + 1) k (by omega) (by omega) (by omega)
theorem spec_split.eq (n : Nat) (h2 : 2 ≤ n) (hn : n < 18446744073709551616) (k : Nat) (hk : 64 ≤ k) : spec_split.f k (n : Int) = some ((psplit n : Nat) : Int) := by
  have h1 := blen_pos (n := n - 1) (by omega)
  have h3 := blen_lt64 (n := n - 1) (by omega)
  exact split_loop n hn (blen (n - 1) - 1) 0 k (by simp; omega) (by omega) (by omega)
def prt (p : Nat × Nat) : S53 := ⟨(p.1 : Int), (p.2 : Int)⟩
theorem spec_pathIn.eq (i : Nat) (b e : Nat) (hbe : b < e) (he : e < 18446744073709551616) (k : Nat) (hk : e - b + 66 ≤ k) : spec_pathIn.f k (i : Int) (b : Int) (e : Int) = some ((path i b e).map prt) := by
  induction hn : e - b using Nat.strongRecOn generalizing b e k with
  | _ n ih =>
  subst hn
  obtain ⟨k, rfl⟩ : ∃ m, k = m + 1 := ⟨k - 1, by omega⟩
  rw [spec_pathIn.f, u64sub (by omega) he]
  by_cases h : e - b ≤ 1
  · rw [if_pos (by omega), path_one h]; rfl
  · have h1 := psplit_lt (n := e - b) (by omega)
    have h2 := psplit_pos (e - b)
    rw [if_neg (by omega), spec_split.eq (e - b) (by omega) (by omega) k (by omega)]
    simp only [Option.bind_some]
    rw [u64add (a := b) (b := psplit (e - b)) (by omega)]
    by_cases hi : i < b + psplit (e - b)
    · rw [if_pos (by omega), ih (b + psplit (e - b) - b) (by omega) b (b + psplit (e - b)) (by omega) (by omega) k (by omega) rfl, path_left (i := i) (b := b) (e := e) (by omega) hi]
      have hl := path_len i b (b + psplit (e - b))
      have hl2 := blen_lt64 (n := b + psplit (e - b) - b - 1) (by omega)
      simp only [Option.bind_some, List.length_map, List.length_cons, List.length_nil]
      rw [if_pos (by omega)]
      simp [prt]
    · rw [if_neg (by omega), ih (e - (b + psplit (e - b))) (by omega) (b + psplit (e - b)) e (by omega) (by omega) k (by omega) rfl, path_right (i := i) (b := b) (e := e) (by omega) (by omega)]
      have hl := path_len i (b + psplit (e - b)) e
      have hl2 := blen_lt64 (n := e - (b + psplit (e - b)) - 1) (by omega)
      simp only [Option.bind_some, List.length_map, List.length_cons, List.length_nil]
      rw [if_pos (by omega)]
      simp [prt]
theorem spec_PathParts.eq (i n : Nat) (h : 0 < n) (hn : n < 18446744073709551616) (k : Nat) (hk : n + 66 ≤ k) : spec_PathParts.f k (i : Int) (n : Int) = some ((path i 0 n).map prt) := by
  unfold spec_PathParts.f
  rw [show (0 : Int) = ((0 : Nat) : Int) from rfl, spec_pathIn.eq i 0 n h hn k (by omega)]
  rfl
end Go.Proofs.YtielnphmcaecdaaDoor.PAll
