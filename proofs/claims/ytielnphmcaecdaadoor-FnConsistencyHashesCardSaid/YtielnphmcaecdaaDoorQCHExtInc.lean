-- Written by a program of this session (wip/tools)
import Derived.Test.YtielnphmcaecdaaDoorQCHExtNodes
import Derived.Test.YtielnphmcaecdaaDoorQCHRangeFns
import Derived.Test.YtielnphmcaecdaaDoorQCHPAllx4
import Derived.Test.YtielnphmcaecdaaDoorQCHAudit
import Derived.Test.YtielnphmcaecdaaDoorQCHBits
namespace Go.Proofs.YtielnphmcaecdaaDoor.PAll
open Go.IntWalk Go.RowKit Go.Proofs.YtielnphmcaecdaaDoor.Num Go.Proofs.YtielnphmcaecdaaDoor.Mth Go.Proofs.YtielnphmcaecdaaDoorW.PrintWords Go.Proofs.YtielnphmcaecdaaDoorW.PrintLast Go.Proofs.YtielnphmcaecdaaDoorW.PrintMore
set_option linter.unusedVariables false
def ndM (i l n : Nat) : Nat := fork i (n / 2 ^ l) - 1
def ndB (i l n : Nat) : Nat := i / 2 ^ ndM i l n * 2 ^ (l + ndM i l n)
def ndE (i l n : Nat) : Nat := (i / 2 ^ ndM i l n + 1) * 2 ^ (l + ndM i l n)
def ndS (i l n : Nat) : List (Nat × Nat) := (List.range (ndM i l n)).map fun t => (l + t, (sib i t).2)
def ndIds (i l n : Nat) : List (Nat × Nat) := (l, i) :: (ndS i l n ++ (Nds 0 (ndE i l n) n).reverse ++ (Nds 0 0 (ndB i l n)).reverse)
def ndBegin (i l n : Nat) : Nat := if (Nds 0 (ndE i l n) n).length = 0 then 0 else 1 + ndM i l n
def ndEnd (i l n : Nat) : Nat := if (Nds 0 (ndE i l n) n).length = 0 then 0 else 1 + ndM i l n + (Nds 0 (ndE i l n) n).length
def ndEph (i l n : Nat) : Nat × Nat := (l + ndM i l n, (sib i (ndM i l n)).2)
theorem xor_one (x : Nat) : x ^^^ 1 = if x % 2 = 0 then x + 1 else x - 1 := by
  by_cases h : x % 2 = 0
  · rw [if_pos h]
    have e := xor_one_odd (M := x + 1) (by omega)
    rw [Nat.add_sub_cancel] at e
    calc x ^^^ 1 = ((x + 1) ^^^ 1) ^^^ 1 := by rw [e]
      _ = x + 1 := by rw [Nat.xor_assoc, Nat.xor_self, Nat.xor_zero]
  · rw [if_neg h]; exact xor_one_odd (by omega)
theorem ndM_le (i l n : Nat) (hl : l ≤ 63) (hi : i < n / 2 ^ l) (hn : n < 18446744073709551616) : l + ndM i l n ≤ 63 := by
  have hq : n / 2 ^ l < 2 ^ (64 - l) := by
    rw [Nat.div_lt_iff_lt_mul (Nat.two_pow_pos _), ← Nat.pow_add, Nat.sub_add_cancel (by omega)]
    exact hn
  have hf : fork i (n / 2 ^ l) ≤ 64 - l := fork_le.2 (by rw [Nat.div_eq_of_lt (Nat.lt_trans hi hq), Nat.div_eq_of_lt hq])
  have := fork_pos hi
  unfold ndM; omega
theorem ndE_le (i l n : Nat) (hi : i < n / 2 ^ l) : ndE i l n = n / 2 ^ (l + ndM i l n) * 2 ^ (l + ndM i l n) ∧ ndE i l n ≤ n := by
  have e : ndE i l n = n / 2 ^ (l + ndM i l n) * 2 ^ (l + ndM i l n) := by
    unfold ndE
    rw [show i / 2 ^ ndM i l n + 1 = n / 2 ^ l / 2 ^ ndM i l n from fork_below hi, Nat.div_div_eq_div_mul, ← Nat.pow_add]
  exact ⟨e, by rw [e]; exact Nat.div_mul_le_self _ _⟩
theorem ndB_lt (i l n : Nat) (hi : i < n / 2 ^ l) : ndB i l n < n := by
  have h := (ndE_le i l n hi).2
  have hp := Nat.two_pow_pos (l + ndM i l n)
  unfold ndE at h
  unfold ndB
  rw [Nat.add_mul, Nat.one_mul] at h
  omega
set_option maxHeartbeats 4000000 in
theorem nodesAt.calls (i l n : Nat) (hl : l ≤ 63) (hi : i < n / 2 ^ l) (hn : n < 18446744073709551616) (w : World) (hG : Glob w) :
    Calls Tryd.prog 96 #[.int .u64 (i : Int), .int .u64 (l : Int), .int .u64 (n : Int)] w fun ex w' => ∃ v : Value, ex = .returned (.agg #[v, .int .i64 (ndBegin i l n : Int), .int .i64 (ndEnd i l n : Int), .int .u64 ((ndEph i l n).1 : Int), .int .u64 ((ndEph i l n).2 : Int)]) ∧ Kd.R k99 99 w' w.heap.size (fun k_ => w.heap.size ≤ k_) v ((ndIds i l n).map cnode) ∧ Below w.heap.size w w' := by
  have hm := ndM_le i l n hl hi hn
  have hE := ndE_le i l n hi
  have hB := ndB_lt i l n hi
  have hi64 : i < 18446744073709551616 := Nat.lt_of_lt_of_le hi (Nat.le_trans (Nat.div_le_self _ _) (by omega))
  have hq64 : n / 2 ^ l < 18446744073709551616 := Nat.lt_of_le_of_lt (Nat.div_le_self _ _) hn
  have hdiv : ∀ t, i / 2 ^ t < 18446744073709551616 := fun t => Nat.lt_of_le_of_lt (Nat.div_le_self _ _) hi64
  have hx : ∀ t, Go.bits .xor .u64 ((i / 2 ^ t : Nat) : Int) 1 = (((sib i t).2 : Nat) : Int) := fun t => by
    rw [show (1 : Int) = ((1 : Nat) : Int) from rfl, xor64 _ _ (hdiv t) (by omega), xor_one]
    rfl
  have lenR : (Nds 0 (ndE i l n) n).length ≤ 128 := Nds_len 0 _ _ 64 hn
  have lenL : (Nds 0 0 (ndB i l n)).length ≤ 128 := Nds_len 0 _ _ 64 (by omega)
  have hsibf : ∀ a t, compact_NodeID_Sibling.f a ((i / 2 ^ t : Nat) : Int) = some (a, (((sib i t).2 : Nat) : Int)) := fun a t => by
    show some (a, Go.bits .xor .u64 ((i / 2 ^ t : Nat) : Int) 1) = _
    rw [hx t]
  have H := nodes.calls 200 (i : Int) (l : Int) (n : Int) ((i / 2 ^ ndM i l n : Nat) : Int) (ndB i l n : Int) (ndE i l n : Int) (ndM i l n) (Nds 0 0 (ndB i l n)).length (Nds 0 (ndE i l n) n).length
    (fun t => ⟨((l + t : Nat) : Int), ((i / 2 ^ t : Nat) : Int)⟩) (fun t => cnode (l + t, (sib i t).2)) ((Nds 0 (ndE i l n) n).map cnode) ((Nds 0 0 (ndB i l n)).map cnode) w hG
    (by omega) (by omega) (by omega) (by omega) (by omega) (by omega)
    (by
      rw [Int.toNat_natCast, show ((n : Int) / 2 ^ l) = ((n / 2 ^ l : Nat) : Int) by rw [Int.natCast_ediv, Int.natCast_pow]; rfl, xor64 _ _ hi64 hq64, bits_Len64.eq 199 _ (Nat.xor_lt_two_pow (n := 64) hi64 hq64)]
      have := fork_pos hi
      congr 1
      show ((fork i (n / 2 ^ l) : Nat) : Int) = ((fork i (n / 2 ^ l) - 1 : Nat) : Int) + 1
      omega)
    (by rw [Int.natCast_ediv, Int.natCast_pow]; rfl)
    (by
      rw [← Int.natCast_add]
      unfold compact_NodeID_Coverage.f
      rw [if_pos (by omega), shl64 _ _ (by omega)]
      have h1 : i / 2 ^ ndM i l n + 1 < 18446744073709551616 := by
        have := fork_below hi
        have h2 : n / 2 ^ l / 2 ^ ndM i l n ≤ n := Nat.le_trans (Nat.div_le_self _ _) (Nat.div_le_self _ _)
        have h3 : i / 2 ^ ndM i l n + 1 = n / 2 ^ l / 2 ^ ndM i l n := this
        omega
      rw [show IntKind.u64.wrap (((i / 2 ^ ndM i l n : Nat) : Int) + 1) = ((i / 2 ^ ndM i l n + 1 : Nat) : Int) from u64add (b := 1) h1, shl64 _ _ (by omega)]
      rw [show i / 2 ^ ndM i l n * 2 ^ (l + ndM i l n) = ndB i l n from rfl, show (i / 2 ^ ndM i l n + 1) * 2 ^ (l + ndM i l n) = ndE i l n from rfl, Nat.mod_eq_of_lt (by omega), Nat.mod_eq_of_lt (by omega)])
    (compact_RangeSize.eq 0 (ndB i l n) (Nat.zero_le _) (by omega) 199)
    (compact_RangeSize.eq (ndE i l n) n hE.2 hn 199)
    (by simp)
    (fun t _ => by show ((l + t : Nat) : Int) = _; omega)
    (fun t _ => hsibf _ t)
    (fun t ht => by
      show some (IntKind.u64.wrap (((l + t : Nat) : Int) + 1), ((i / 2 ^ t : Nat) : Int) / 2) = _
      rw [show IntKind.u64.wrap (((l + t : Nat) : Int) + 1) = ((l + t + 1 : Nat) : Int) from u64add (b := 1) (by omega), show ((i / 2 ^ t : Nat) : Int) / 2 = ((i / 2 ^ (t + 1) : Nat) : Int) by rw [Nat.pow_succ, ← Nat.div_div_eq_div_mul]; omega]
      rfl)
    (fun xs hxs => compact_RangeNodes.eq (ndE i l n) n hE.2 hn xs (by omega) 200 (by omega))
    (by rw [List.length_map])
    (fun xs hxs => compact_RangeNodes.eq 0 (ndB i l n) (Nat.zero_le _) (by omega) xs (by omega) 200 (by omega))
    (by rw [List.length_map])
    (cnode (ndEph i l n)) (by rw [← Int.natCast_add]; exact hsibf _ _)
  refine H.mono ?_
  rintro ex w' ⟨v, rfl, hR, hb⟩
  refine ⟨v, ?_, ?_, hb⟩
  · congr 3
    unfold ndBegin ndEnd
    by_cases h : (Nds 0 (ndE i l n) n).length = 0
    · rw [if_pos h, if_pos h, if_pos h, if_pos h]; rfl
    · rw [if_neg h, if_neg h, if_neg h, if_neg h]; simp; exact ⟨rfl, rfl⟩
  · unfold ndIds ndS
    rw [List.map_cons, List.map_append, List.map_append, List.map_map, List.map_reverse, List.map_reverse, show cnode (l, i) = (⟨((l + 0 : Nat) : Int), ((i / 2 ^ 0 : Nat) : Int)⟩ : S99) by simp [cnode]]
    exact hR
def incIds (i n : Nat) : List (Nat × Nat) := ndS i 0 n ++ (Nds 0 (ndE i 0 n) n).reverse ++ (Nds 0 0 (ndB i 0 n)).reverse
def incBegin (i n : Nat) : Nat := if (Nds 0 (ndE i 0 n) n).length = 0 then 0 else ndM i 0 n
def incEnd (i n : Nat) : Nat := if (Nds 0 (ndE i 0 n) n).length = 0 then 0 else ndM i 0 n + (Nds 0 (ndE i 0 n) n).length
set_option maxHeartbeats 4000000 in
theorem errNew.calls (s : ByteArray) (w : World) : Calls Tryd.prog 88 #[.string s] w fun e w' => ∃ t a, e = .returned (.iface t (.pointer (some a))) ∧ Below w.heap.size w w' := by
  go_enter Tryd.func88, Tryd.ntmps88
  go_wp2
  go_ret
  exact ⟨_, _, rfl, by repeat (first | exact Below.refl _ _ | apply below_alloc | apply pw_below_drewN | apply below_drew1)⟩
def impl_Inclusion.f (_ : Nat) (a0 a1 : Int) : Option (List S49 × Int × Int × Int × Int × Bool) :=
  if a1 ≤ a0 then some ([], 0, 0, 0, 0, false)
  else if 0 ≤ a0 ∧ a1 < 18446744073709551616 then some ((incIds a0.toNat a1.toNat).map inode, ((ndEph a0.toNat 0 a1.toNat).1 : Int), ((ndEph a0.toNat 0 a1.toNat).2 : Int), (incBegin a0.toNat a1.toNat : Int), (incEnd a0.toNat a1.toNat : Int), true) else none
theorem impl_Inclusion.mono : ∀ a0 a1 k, LeO (impl_Inclusion.f k a0 a1) (impl_Inclusion.f (k + 1) a0 a1) := fun _ _ _ => LeO.refl _
end Go.Proofs.YtielnphmcaecdaaDoor.PAll
