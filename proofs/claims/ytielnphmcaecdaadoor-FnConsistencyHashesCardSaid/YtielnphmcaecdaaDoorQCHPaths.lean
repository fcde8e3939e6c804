-- Written by a program of this session (wip/tools)
import Derived.Test.YtielnphmcaecdaaDoorQCHPAllx6
import Derived.Test.YtielnphmcaecdaaDoorQCHPAllx12
import Derived.Test.YtielnphmcaecdaaDoorQCHBits
namespace Go.Proofs.YtielnphmcaecdaaDoor.PAll
open Go.RowKit Go.Proofs.YtielnphmcaecdaaDoor.Num Go.Proofs.YtielnphmcaecdaaDoor.Mth Go.Proofs.YtielnphmcaecdaaDoorW.PrintWords Go.Proofs.YtielnphmcaecdaaDoorW.PrintLast
theorem split_loop (n : Nat) (hn : n < 18446744073709551616) (d : Nat) : ∀ (j k : Nat), 2 ^ j < n → blen (n - 1) = j + 1 + d → d < k → spec_split.l0 k (n : Int) ((2 ^ j : Nat) : Int) = some ((psplit n : Nat) : Int) := by
  induction d with
  | zero =>
    intro j k h1 h2 hk
    obtain ⟨k, rfl⟩ : ∃ m, k = m + 1 := ⟨k - 1, by omega⟩
    have h3 : n - 1 < 2 ^ (j + 1) := blen_le.1 (by omega)
    rw [Nat.pow_succ] at h3
    have e : psplit n = 2 ^ j := psplit_unique h1 (by omega)
    rw [spec_split.l0, u64sub (by omega) hn, if_neg (by omega), e]
  | succ d ih =>
    intro j k h1 h2 hk
    obtain ⟨k, rfl⟩ : ∃ m, k = m + 1 := ⟨k - 1, by omega⟩
    have h3 : ¬ n - 1 < 2 ^ (j + 1) := fun h => by have := blen_le.2 h; omega
    have h4 := Nat.pow_succ 2 j
    have e : IntKind.u64.wrap (((2 ^ j : Nat) : Int) * 2) = ((2 ^ (j + 1) : Nat) : Int) := by
      rw [h4]; exact u64mul (a := 2 ^ j) (b := 2) (by omega)
    rw [spec_split.l0, u64sub (by omega) hn, if_pos (by omega), e]
    exact ih (j + 1) k (by omega) (by omega) (by omega)
theorem spec_split.eq (n : Nat) (h2 : 2 ≤ n) (hn : n < 18446744073709551616) (k : Nat) (hk : 64 ≤ k) : spec_split.f k (n : Int) = some ((psplit n : Nat) : Int) := by
  have h1 := blen_pos (n := n - 1) (by omega)
  have h3 := blen_lt64 (n := n - 1) (by omega)
  exact split_loop n hn (blen (n - 1) - 1) 0 k (by simp; omega) (by omega) (by omega)
def prt (p : Nat × Nat) : S53 := ⟨(p.1 : Int), (p.2 : Int)⟩
end Go.Proofs.YtielnphmcaecdaaDoor.PAll
