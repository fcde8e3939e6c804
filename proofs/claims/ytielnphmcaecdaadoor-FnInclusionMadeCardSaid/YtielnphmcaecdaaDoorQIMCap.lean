-- Written by a program of this session (wip/tools)
import Derived.Test.YtielnphmcaecdaaDoorQIMV0
namespace Go.Proofs.YtielnphmcaecdaaDoorW.PrintWords
open Go.RowKit
section
variable {P : Program} {ops : Array Oper} {rest : List Oper} {o : Oper} {a : Act} {Q : Exit → Act → World → Prop} {Kc : Act → World → Prop}
namespace Kd
variable {α : Type}
theorem cap_row (d : Kd α) {W : World} (base e : Nat) {n : Int} {z : Value} {bytes : Nat} (hb0 : 0 < bytes) (hl : n.toNat * bytes ≤ 281474976710656) (hbase : base ≤ W.heap.size) {ok : Nat → Prop} (hfresh : ok W.heap.size) :
    d.R e (W.alloc (.cells (madeCells z.cells (n.toNat * d.sz)) e)) base ok (.slice (some ⟨W.heap.size, 0, none⟩) 0 n.toNat) ([] : List α) := by
  have hm : n.toNat ≤ 281474976710656 := Nat.le_trans (Nat.le_mul_of_pos_right _ hb0) hl
  refine ⟨fun k hk => ?_, [], ⟨by simp, .inr ⟨W.heap.size, n.toNat, madeCells z.cells (n.toNat * d.sz), rfl, hbase, blk_new W _, Nat.zero_le _, by unfold maxLen; omega, by rw [size_madeCells], by simp⟩⟩, ⟨by simp, fun j p hj => by simp at hj⟩⟩
  have : W.heap.size = k := by simpa [Value.ownBlock] using hk
  subst this
  exact hfresh
end Kd
end
end Go.Proofs.YtielnphmcaecdaaDoorW.PrintWords
