-- Written by a program of this session (wip/tools)
import Derived.Test.YtielnphmcaecdaaDoorQIMExtNodes
import Derived.Test.YtielnphmcaecdaaDoorQIMNodeLists
import Derived.Test.YtielnphmcaecdaaDoorQIMAudit
import Derived.Test.YtielnphmcaecdaaDoorQIMBits
import Derived.Test.YtielnphmcaecdaaDoorQIMPAllx4
namespace Go.Proofs.YtielnphmcaecdaaDoor.PAll
open Go.IntWalk Go.RowKit Go.Proofs.YtielnphmcaecdaaDoor.Num Go.Proofs.YtielnphmcaecdaaDoor.Mth Go.Proofs.YtielnphmcaecdaaDoorW.PrintWords Go.Proofs.YtielnphmcaecdaaDoorW.PrintLast Go.Proofs.YtielnphmcaecdaaDoorW.PrintMore
set_option linter.unusedVariables false
def ndM (i l n : Nat) : Nat := fork i (n / 2 ^ l) - 1
def ndB (i l n : Nat) : Nat := i / 2 ^ ndM i l n * 2 ^ (l + ndM i l n)
def ndE (i l n : Nat) : Nat := (i / 2 ^ ndM i l n + 1) * 2 ^ (l + ndM i l n)
def ndS (i l n : Nat) : List (Nat × Nat) := (List.range (ndM i l n)).map fun t => (l + t, (sib i t).2)
def ndIds (i l n : Nat) : List (Nat × Nat) := (l, i) :: (ndS i l n ++ (Nds 0 (ndE i l n) n).reverse ++ (Nds 0 0 (ndB i l n)).reverse)
def ndBegin (i l n : Nat) : Nat := if (Nds 0 (ndE i l n) n).length = 0 then 0 else 1 + ndM i l n
def ndEnd (i l n : Nat) : Nat := if (Nds 0 (ndE i l n) n).length = 0 then 0 else 1 + ndM i l n + (Nds 0 (ndE i l n) n).length
def ndEph (i l n : Nat) : Nat × Nat := (l + ndM i l n, (sib i (ndM i l n)).2)
theorem xor_one (x : Nat) : x ^^^ 1 = if x % 2 = 0 then x + 1 else x - 1 := by
  by_cases h : x % 2 = 0
  · rw [if_pos h]
    have e := xor_one_odd (M := x + 1) (by omega)
    rw [Nat.add_sub_cancel] at e
    calc x ^^^ 1 = ((x + 1) ^^^ 1) ^^^ 1 := by rw [e]
      _ = x + 1 := by rw [Nat.xor_assoc, Nat.xor_self, Nat.xor_zero]
  · rw [if_neg h]; exact xor_one_odd (by omega)
theorem ndM_le (i l n : Nat) (hl : l ≤ 63) (hi : i < n / 2 ^ l) (hn : n < 18446744073709551616) : l + ndM i l n ≤ 63 := by
  have hq : n / 2 ^ l < 2 ^ (64 - l) := by
    rw [Nat.div_lt_iff_lt_mul (Nat.two_pow_pos _), ← Nat.pow_add, Nat.sub_add_cancel (by omega)]
    exact hn
  have hf : fork i (n / 2 ^ l) ≤ 64 - l := fork_le.2 (by rw [Nat.div_eq_of_lt (Nat.lt_trans hi hq), Nat.div_eq_of_lt hq])
  have := fork_pos hi
  unfold ndM; omega
theorem ndE_le (i l n : Nat) (hi : i < n / 2 ^ l) : ndE i l n = n / 2 ^ (l + ndM i l n) * 2 ^ (l + ndM i l n) ∧ ndE i l n ≤ n := by
  have e : ndE i l n = n / 2 ^ (l + ndM i l n) * 2 ^ (l + ndM i l n) := by
    unfold ndE
    rw [show i / 2 ^ ndM i l n + 1 = n / 2 ^ l / 2 ^ ndM i l n from fork_below hi, Nat.div_div_eq_div_mul, ← Nat.pow_add]
  exact ⟨e, by rw [e]; exact Nat.div_mul_le_self _ _⟩
theorem ndB_lt (i l n : Nat) (hi : i < n / 2 ^ l) : ndB i l n < n := by
  have h := (ndE_le i l n hi).2
  have hp := Nat.two_pow_pos (l + ndM i l n)
  unfold ndE at h
  unfold ndB
  rw [Nat.add_mul, Nat.one_mul] at h
  omega
set_option maxHeartbeats 4000000 in
theorem nodesAt.calls (i l n : Nat) (hl : l ≤ 63) (hi : i < n / 2 ^ l) (hn : n < 18446744073709551616) (w : World) (hG : Glob w) :
    Calls Tryd.prog 96 #[.int .u64 (i : Int), .int .u64 (l : Int), .int .u64 (n : Int)] w fun ex w' => ∃ v : Value, ex = .returned (.agg #[v, .int .i64 (ndBegin i l n : Int), .int .i64 (ndEnd i l n : Int), .int .u64 ((ndEph i l n).1 : Int), .int .u64 ((ndEph i l n).2 : Int)]) ∧ Kd.R k99 99 w' w.heap.size (fun k_ => w.heap.size ≤ k_) v ((ndIds i l n).map cnode) ∧ Below w.heap.size w w' := by
  have hm := ndM_le i l n hl hi hn
  have hE := ndE_le i l n hi
  have hB := ndB_lt i l n hi
  have hi64 : i < 18446744073709551616 := Nat.lt_of_lt_of_le hi (Nat.le_trans (Nat.div_le_self _ _) (by omega))
  have hq64 : n / 2 ^ l < 18446744073709551616 := Nat.lt_of_le_of_lt (Nat.div_le_self _ _) hn
  have hdiv : ∀ t, i / 2 ^ t < 18446744073709551616 := fun t => Nat.lt_of_le_of_lt (Nat.div_le_self _ _) hi64
  have hx : ∀ t, Go.bits .xor .u64 ((i / 2 ^ t : Nat) : Int) 1 = (((sib i t).2 : Nat) : Int) := fun t => by
    rw [show (1 : Int) = ((1 : Nat) : Int) from rfl, xor64 _ _ (hdiv t) (by omega), xor_one]
    rfl
  have lenR : (Nds 0 (ndE i l n) n).length ≤ 128 := Nds_len 0 _ _ 64 hn
  have lenL : (Nds 0 0 (ndB i l n)).length ≤ 128 := Nds_len 0 _ _ 64 (by omega)
  have hsibf : ∀ a t, compact_NodeID_Sibling.f a ((i / 2 ^ t : Nat) : Int) = some (a, (((sib i t).2 : Nat) : Int)) := fun a t => by
    show some (a, Go.bits .xor .u64 ((i / 2 ^ t : Nat) : Int) 1) = _
    rw [hx t]
  have H := nodes.calls 200 (i : Int) (l : Int) (n : Int) ((i / 2 ^ ndM i l n : Nat) : Int) (ndB i l n : Int) (ndE i l n : Int) (ndM i l n) (Nds 0 0 (ndB i l n)).length (Nds 0 (ndE i l n) n).length
    (fun t => ⟨((l + t : Nat) : Int), ((i / 2 ^ t : Nat) : Int)⟩) (fun t => cnode (l + t, (sib i t).2)) ((Nds 0 (ndE i l n) n).map cnode) ((Nds 0 0 (ndB i l n)).map cnode) w hG
    (by omega) (by omega) (by omega) (by omega) (by omega) (by omega)
    (by
      rw [Int.toNat_natCast, show ((n : Int) / 2 ^ l) = ((n / 2 ^ l : Nat) : Int) by rw [Int.natCast_ediv, Int.natCast_pow]; rfl, xor64 _ _ hi64 hq64, bits_Len64.eq 199 _ (Nat.xor_lt_two_pow (n := 64) hi64 hq64)]
      have := fork_pos hi
      congr 1
      show ((fork i (n / 2 ^ l) : Nat) : Int) = ((fork i (n / 2 ^ l) - 1 : Nat) : Int) + 1
      omega)
    (by rw [Int.natCast_ediv, Int.natCast_pow]; rfl)
    (by
      rw [← Int.natCast_add]
      unfold compact_NodeID_Coverage.f
      rw [if_pos (by omega), shl64 _ _ (by omega)]
      have h1 : i / 2 ^ ndM i l n + 1 < 18446744073709551616 := by
        have := fork_below hi
        have h2 : n / 2 ^ l / 2 ^ ndM i l n ≤ n := Nat.le_trans (Nat.div_le_self _ _) (Nat.div_le_self _ _)
        have h3 : i / 2 ^ ndM i l n + 1 = n / 2 ^ l / 2 ^ ndM i l n := this
        omega
      rw [show IntKind.u64.wrap (((i / 2 ^ ndM i l n : Nat) : Int) + 1) = ((i / 2 ^ ndM i l n + 1 : Nat) : Int) from u64add (b := 1) h1, shl64 _ _ (by omega)]
      rw [show i / 2 ^ ndM i l n * 2 ^ (l + ndM i l n) = ndB i l n from rfl, show (i / 2 ^ ndM i l n + 1) * 2 ^ (l + ndM i l n) = ndE i l n from rfl, Nat.mod_eq_of_lt (by omega), Nat.mod_eq_of_lt (by omega)])
    (compact_RangeSize.eq 0 (ndB i l n) (Nat.zero_le _) (by omega) 199)
    (compact_RangeSize.eq (ndE i l n) n hE.2 hn 199)
    (by simp)
    (fun t _ => by show ((l + t : Nat) : Int) = _; omega)
    (fun t _ => hsibf _ t)
    (fun t ht => by
      show some (IntKind.u64.wrap (((l + t : Nat) : Int) + 1), ((i / 2 ^ t : Nat) : Int) / 2) = _
      rw [show IntKind.u64.wrap (((l + t : Nat) : Int) + 1) = ((l + t + 1 : Nat) : Int) from u64add (b := 1) (by omega), show ((i / 2 ^ t : Nat) : Int) / 2 = ((i / 2 ^ (t + 1) : Nat) : Int) by rw [Nat.pow_succ, ← Nat.div_div_eq_div_mul]; omega]
      rfl)
    (fun xs hxs => compact_RangeNodes.eq (ndE i l n) n hE.2 hn xs (by omega) 200 (by omega))
    (by rw [List.length_map])
    (fun xs hxs => compact_RangeNodes.eq 0 (ndB i l n) (Nat.zero_le _) (by omega) xs (by omega) 200 (by omega))
    (by rw [List.length_map])
    (cnode (ndEph i l n)) (by rw [← Int.natCast_add]; exact hsibf _ _)
  refine H.mono ?_
  rintro ex w' ⟨v, rfl, hR, hb⟩
  refine ⟨v, ?_, ?_, hb⟩
  · congr 3
    unfold ndBegin ndEnd
    by_cases h : (Nds 0 (ndE i l n) n).length = 0
    · rw [if_pos h, if_pos h, if_pos h, if_pos h]; rfl
    · rw [if_neg h, if_neg h, if_neg h, if_neg h]; simp; exact ⟨rfl, rfl⟩
  · unfold ndIds ndS
    rw [List.map_cons, List.map_append, List.map_append, List.map_map, List.map_reverse, List.map_reverse, show cnode (l, i) = (⟨((l + 0 : Nat) : Int), ((i / 2 ^ 0 : Nat) : Int)⟩ : S99) by simp [cnode]]
    exact hR
def incIds (i n : Nat) : List (Nat × Nat) := ndS i 0 n ++ (Nds 0 (ndE i 0 n) n).reverse ++ (Nds 0 0 (ndB i 0 n)).reverse
def incBegin (i n : Nat) : Nat := if (Nds 0 (ndE i 0 n) n).length = 0 then 0 else ndM i 0 n
def incEnd (i n : Nat) : Nat := if (Nds 0 (ndE i 0 n) n).length = 0 then 0 else ndM i 0 n + (Nds 0 (ndE i 0 n) n).length
theorem skip_inc (i n : Nat) (hi : i < n) (hn : n < 18446744073709551616) (a b : Int) :
    proof_Nodes_skipFirst.f ((ndIds i 0 n).map cnode) (ndBegin i 0 n : Int) (ndEnd i 0 n : Int) a b = some ((incIds i n).map cnode, (incBegin i n : Int), (incEnd i n : Int), a, b) := by
  have lenR : (Nds 0 (ndE i 0 n) n).length ≤ 128 := Nds_len 0 _ _ 64 hn
  have hm := ndM_le i 0 n (by omega) (by rw [Nat.pow_zero, Nat.div_one]; exact hi) hn
  have e : ((ndIds i 0 n).map cnode).drop (1 : Int).toNat = (incIds i n).map cnode := by
    rw [show (1 : Int).toNat = 1 from rfl]; unfold ndIds incIds; rw [List.map_cons]; rfl
  have hl : 1 ≤ (((ndIds i 0 n).map cnode).length : Int) := by rw [List.length_map]; unfold ndIds; rw [List.length_cons]; omega
  unfold proof_Nodes_skipFirst.f
  rw [if_pos hl, e]
  show (if (ndBegin i 0 n : Int) < (ndEnd i 0 n : Int) then _ else _) = _
  unfold ndBegin ndEnd incBegin incEnd
  by_cases h : (Nds 0 (ndE i 0 n) n).length = 0
  · rw [if_pos h, if_pos h, if_pos h, if_pos h, if_neg (by omega)]
  · rw [if_neg h, if_neg h, if_neg h, if_neg h, if_pos (by omega)]
    rw [show wrap64 (((1 + ndM i 0 n : Nat) : Int) - 1) = (ndM i 0 n : Int) by unfold wrap64; omega, show wrap64 (((1 + ndM i 0 n + (Nds 0 (ndE i 0 n) n).length : Nat) : Int) - 1) = ((ndM i 0 n + (Nds 0 (ndE i 0 n) n).length : Nat) : Int) by unfold wrap64; omega]
set_option maxHeartbeats 4000000 in
theorem errNew.calls (s : ByteArray) (w : World) : Calls Tryd.prog 88 #[.string s] w fun e w' => ∃ t a, e = .returned (.iface t (.pointer (some a))) ∧ Below w.heap.size w w' := by
  go_enter Tryd.func88, Tryd.ntmps88
  go_wp2
  go_ret
  exact ⟨_, _, rfl, by repeat (first | exact Below.refl _ _ | apply below_alloc | apply pw_below_drewN | apply below_drew1)⟩
set_option maxHeartbeats 8000000 in
set_option maxRecDepth 100000 in
theorem proofInclusion.calls (i n : Nat) (hi : i < n) (hn : n < 18446744073709551616) (w : World) (hG : Glob w) :
    Calls Tryd.prog 70 #[.int .u64 (i : Int), .int .u64 (n : Int)] w fun ex w' => ∃ v : Value, ex = .returned (.tuple #[.agg #[v, .int .i64 (incBegin i n : Int), .int .i64 (incEnd i n : Int), .int .u64 ((ndEph i 0 n).1 : Int), .int .u64 ((ndEph i 0 n).2 : Int)], .nilIface]) ∧ Kd.Q k99 99 w' w.heap.size (fun k_ => w.heap.size ≤ k_) v ((incIds i n).map cnode) ∧ Below w.heap.size w w' := by
  have b0 : decide ((i : Int) ≥ (n : Int)) = false := decide_eq_false (by omega)
  have b1 : decide ((n : Int) ≤ (i : Int)) = false := decide_eq_false (by omega)
  have b2 : decide (n ≤ i) = false := decide_eq_false (by omega)
  have hS := skip_inc i n hi hn ((ndEph i 0 n).1 : Int) ((ndEph i 0 n).2 : Int)
  have hA := fun W hW => nodesAt.calls i 0 n (by omega) (by rw [Nat.pow_zero, Nat.div_one]; exact hi) hn W hW
  generalize ((ndEph i 0 n).1 : Int) = z1 at hS hA ⊢
  generalize ((ndEph i 0 n).2 : Int) = z2 at hS hA ⊢
  generalize ((incBegin i n : Nat) : Int) = zb at hS ⊢
  generalize ((incEnd i n : Nat) : Int) = ze at hS ⊢
  generalize (incIds i n).map cnode = zl at hS ⊢
  generalize ((ndBegin i 0 n : Nat) : Int) = yb at hS hA
  generalize ((ndEnd i 0 n : Nat) : Int) = ye at hS hA
  generalize (ndIds i 0 n).map cnode = yl at hS hA
  have HSK := Aside0.mk hS
  have HNA := Aside0.mk hA
  have HGL := Aside0.mk hG
  clear hi hn hG hS hA
  go_enter Tryd.func70, Tryd.ntmps70
  go_wp2_with (fail)
  have BK := Aside0.mk (blk_new w (Obj.cells #[Value.slice none 0 0, Value.int IntKind.i64 0, Value.int IntKind.i64 0, Value.int IntKind.u64 0, Value.int IntKind.u64 0] 112))
  have HB := Aside0.mk (below_alloc (Below.refl _ w) (Obj.cells #[Value.slice none 0 0, Value.int IntKind.i64 0, Value.int IntKind.i64 0, Value.int IntKind.u64 0, Value.int IntKind.u64 0] 112))
  generalize w.alloc (Obj.cells #[Value.slice none 0 0, Value.int IntKind.i64 0, Value.int IntKind.i64 0, Value.int IntKind.u64 0, Value.int IntKind.u64 0] 112) = W at BK HB ⊢
  have HS := Aside0.mk (blk_lt BK.out)
  refine (HNA.out W (HGL.out.below HB.out)).mono ?_
  rintro ex w1 ⟨v, rfl, hR, hb⟩
  dsimp only
  replace BK := Aside0.mk (blk_below BK.out hb)
  replace HB := Aside0.mk (below_step HB.out hb)
  have HR := Aside0.mk (Kd.R_mono (ok' := fun k_ => w.heap.size < k_) (Kd.R_lower hR (Nat.le_of_lt HS.out)) (fun k_ hk => Nat.lt_of_lt_of_le HS.out hk))
  clear hR hb
  go_wp2_with (fail)
  refine (proof_Nodes_skipFirst.calls (fun k_ => w.heap.size < k_) v _ _ _ _ _ _ _ _ _ _ w w1 HB.out HR.out HSK.out).mono ?_
  rintro ex w2 ⟨v2, rfl, hQ, hB2, hK⟩
  dsimp only
  replace HS := Aside0.mk (blk_lt BK.out)
  replace BK := Aside0.mk (blk_kept BK.out hK (fun h => Nat.lt_irrefl _ h))
  have HQ := Aside0.mk (Kd.Q_mono (ok' := fun k_ => w.heap.size < k_) hQ (fun k_ hk => hk.elim (fun h => h) (fun h => Nat.lt_of_lt_of_le HS.out h)))
  replace HB := Aside0.mk hB2
  clear hQ hB2 hK
  have e60 : World.cell? w2 ⟨w.heap.size, 0, none⟩ = some (.slice none 0 0) := blk_cell BK.out 0
  have e61 : World.cell? w2 ⟨w.heap.size, 1, none⟩ = some (.int .i64 0) := blk_cell BK.out 1
  have e62 : World.cell? w2 ⟨w.heap.size, 2, none⟩ = some (.int .i64 0) := blk_cell BK.out 2
  have e63 : World.cell? w2 ⟨w.heap.size, 3, none⟩ = some (.int .u64 0) := blk_cell BK.out 3
  have e64 : World.cell? w2 ⟨w.heap.size, 4, none⟩ = some (.int .u64 0) := blk_cell BK.out 4
  have z6 := blk_frozen BK.out
  obtain ⟨A2, c2, rfl, hlc⟩ := Kd.Q_slice HQ.out
  clear hlc
  go_wp2
  refine bodyPost_ret (results_ct rfl _ _ w.heap.size 112 #[.slice A2 zl.length c2, .int .i64 zb, .int .i64 ze, .int .u64 z1, .int .u64 z2] (0, 0) _ rfl (fin5 _ _ _ _ _ BK.out) Tryd.underlying112 rfl (by kernel_rfl)) rfl ?_
  refine ⟨.slice A2 zl.length c2, rfl, ?_, bel_grown HB.out (grown5 _ _ _ _ _) (Nat.le_refl _)⟩
  exact Kd.Q_mono (Kd.Q_grown HQ.out (grown5 _ _ _ _ _) (fun k_ hk h => by injection h with h; omega)) (fun k_ hk => Nat.le_of_lt hk)
set_option maxHeartbeats 8000000 in
set_option maxRecDepth 100000 in
theorem proofInclusionNo.calls (i n : Int) (hi : n ≤ i) (w : World) :
    Calls Tryd.prog 70 #[.int .u64 i, .int .u64 n] w fun ex w' => ∃ t a, ex = .returned (.tuple #[.agg #[.slice none 0 0, .int .i64 0, .int .i64 0, .int .u64 0, .int .u64 0], .iface t (.pointer (some a))]) ∧ Below w.heap.size w w' := by
  have b0 : decide (i ≥ n) = true := decide_eq_true hi
  have b1 : decide (n ≤ i) = true := decide_eq_true hi
  clear hi
  go_enter Tryd.func70, Tryd.ntmps70
  go_wp2_with (fail)
  have BK := Aside0.mk (blk_new w (Obj.cells #[Value.slice none 0 0, Value.int IntKind.i64 0, Value.int IntKind.i64 0, Value.int IntKind.u64 0, Value.int IntKind.u64 0] 112))
  have HB := Aside0.mk (below_alloc (Below.refl _ w) (Obj.cells #[Value.slice none 0 0, Value.int IntKind.i64 0, Value.int IntKind.i64 0, Value.int IntKind.u64 0, Value.int IntKind.u64 0] 112))
  generalize w.alloc (Obj.cells #[Value.slice none 0 0, Value.int IntKind.i64 0, Value.int IntKind.i64 0, Value.int IntKind.u64 0, Value.int IntKind.u64 0] 112) = W at BK HB ⊢
  refine (errNew.calls _ _).mono ?_
  rintro ex w2 ⟨t, q, rfl, hb⟩
  dsimp only
  replace BK := Aside0.mk (blk_below BK.out hb)
  replace HB := Aside0.mk (below_step HB.out hb)
  clear hb
  have e60 : World.cell? w2 ⟨w.heap.size, 0, none⟩ = some (.slice none 0 0) := blk_cell BK.out 0
  have e61 : World.cell? w2 ⟨w.heap.size, 1, none⟩ = some (.int .i64 0) := blk_cell BK.out 1
  have e62 : World.cell? w2 ⟨w.heap.size, 2, none⟩ = some (.int .i64 0) := blk_cell BK.out 2
  have e63 : World.cell? w2 ⟨w.heap.size, 3, none⟩ = some (.int .u64 0) := blk_cell BK.out 3
  have e64 : World.cell? w2 ⟨w.heap.size, 4, none⟩ = some (.int .u64 0) := blk_cell BK.out 4
  have z6 := blk_frozen BK.out
  go_wp2
  refine bodyPost_ret (results_ct rfl _ _ w.heap.size 112 #[.slice none 0 0, .int .i64 0, .int .i64 0, .int .u64 0, .int .u64 0] (0, 0) _ rfl (fin5 _ _ _ _ _ BK.out) Tryd.underlying112 rfl (by kernel_rfl)) rfl ?_
  exact ⟨t, q, rfl, bel_grown HB.out (grown5 _ _ _ _ _) (Nat.le_refl _)⟩
def impl_Inclusion.f (_ : Nat) (a0 a1 : Int) : Option (List S49 × Int × Int × Int × Int × Bool) :=
  if a1 ≤ a0 then some ([], 0, 0, 0, 0, false)
  else if 0 ≤ a0 ∧ a1 < 18446744073709551616 then some ((incIds a0.toNat a1.toNat).map inode, ((ndEph a0.toNat 0 a1.toNat).1 : Int), ((ndEph a0.toNat 0 a1.toNat).2 : Int), (incBegin a0.toNat a1.toNat : Int), (incEnd a0.toNat a1.toNat : Int), true) else none
theorem impl_Inclusion.mono : ∀ a0 a1 k, LeO (impl_Inclusion.f k a0 a1) (impl_Inclusion.f (k + 1) a0 a1) := fun _ _ _ => LeO.refl _
theorem fin5p {W : World} {g : Nat} (s a b c d : Value) (bk : W.heap[g]? = some (.cells #[.slice none 0 0, .int .u64 0, .int .u64 0, .int .i64 0, .int .i64 0] 61 (0, 0))) :
    (((((W.setCell ⟨g, 0, none⟩ s).setCell ⟨g, 1, none⟩ a).setCell ⟨g, 2, none⟩ b).setCell ⟨g, 3, none⟩ c).setCell ⟨g, 4, none⟩ d).heap[g]? = some (.cells #[s, a, b, c, d] 61 (0, 0)) := by
  refine blk_put (cs := #[s, a, b, c, .int .i64 0]) ?_ 4 _ rfl
  refine blk_put (cs := #[s, a, b, .int .i64 0, .int .i64 0]) ?_ 3 _ rfl
  refine blk_put (cs := #[s, a, .int .u64 0, .int .i64 0, .int .i64 0]) ?_ 2 _ rfl
  refine blk_put (cs := #[s, .int .u64 0, .int .u64 0, .int .i64 0, .int .i64 0]) ?_ 1 _ rfl
  exact blk_put bk 0 _ rfl
theorem fromProof_eq (l : List (Nat × Nat)) (b e z1 z2 : Int) (hl : l.length < 4398046511104) : impl_fromProof.f (l.length + 1) (l.map cnode) b e z1 z2 = some (l.map inode, z1, z2, b, e) := by
  unfold impl_fromProof.f
  rw [show proof_Nodes_Ephem.f (l.map cnode) b e z1 z2 = some (z1, z2, b, e) from rfl, Option.bind_some, impl_fromNodes.eq _ (by rw [List.length_map]; exact hl) _ (by rw [List.length_map]; omega), Option.bind_some]
  show some _ = _
  rw [List.map_map]
  rfl
theorem incIds_len (i n : Nat) (hi : i < n) (hn : n < 18446744073709551616) : (incIds i n).length ≤ 400 := by
  have lenR : (Nds 0 (ndE i 0 n) n).length ≤ 128 := Nds_len 0 _ _ 64 hn
  have h1 : i < n / 2 ^ 0 := by rw [Nat.pow_zero, Nat.div_one]; exact hi
  have hB := ndB_lt i 0 n h1
  have lenL : (Nds 0 0 (ndB i 0 n)).length ≤ 128 := Nds_len 0 _ _ 64 (by omega)
  have hm := ndM_le i 0 n (by omega) h1 hn
  unfold incIds ndS
  simp only [List.length_append, List.length_map, List.length_range, List.length_reverse]
  omega
set_option maxHeartbeats 8000000 in
set_option maxRecDepth 100000 in
theorem impl_Inclusion.calls (k : Nat) (a0 a1 : Int) (r0 : List S49) (r1 r2 r3 r4 : Int) (r5 : Bool) (w : World) (hG : Glob w) (h : impl_Inclusion.f k a0 a1 = some (r0, r1, r2, r3, r4, r5)) :
    Calls Tryd.prog 31 #[.int .u64 a0, .int .u64 a1] w fun ex w' => ∃ v : Value, ex = .returned (.tuple #[.agg #[v, .int .u64 r1, .int .u64 r2, .int .i64 r3, .int .i64 r4], .bool r5]) ∧ Kd.R k49 49 w' w.heap.size (fun _ => True) v r0 ∧ Below w.heap.size w w' := by
  unfold impl_Inclusion.f at h
  by_cases hc : a1 ≤ a0
  · rw [if_pos hc] at h
    simp only [Option.some.injEq, Prod.mk.injEq] at h
    obtain ⟨rfl, rfl, rfl, rfl, rfl, rfl⟩ := h
    have hA := fun W => proofInclusionNo.calls a0 a1 hc W
    have HA := Aside0.mk hA
    clear hA hc
    go_enter Tryd.func31, Tryd.ntmps31
    go_wp2_with (fail)
    have BK := Aside0.mk (blk_new w (Obj.cells #[Value.slice none 0 0, Value.int IntKind.u64 0, Value.int IntKind.u64 0, Value.int IntKind.i64 0, Value.int IntKind.i64 0] 61))
    have HB := Aside0.mk (below_alloc (Below.refl _ w) (Obj.cells #[Value.slice none 0 0, Value.int IntKind.u64 0, Value.int IntKind.u64 0, Value.int IntKind.i64 0, Value.int IntKind.i64 0] 61))
    generalize w.alloc (Obj.cells #[Value.slice none 0 0, Value.int IntKind.u64 0, Value.int IntKind.u64 0, Value.int IntKind.i64 0, Value.int IntKind.i64 0] 61) = W at BK HB ⊢
    refine (HA.out W).mono ?_
    rintro ex w1 ⟨t, q, rfl, hb⟩
    dsimp only
    replace BK := Aside0.mk (blk_below BK.out hb)
    replace HB := Aside0.mk (below_step HB.out hb)
    clear hb
    have BK2 := Aside0.mk (blk_alloc BK.out (Obj.cells #[Value.slice none 0 0, Value.int IntKind.i64 0, Value.int IntKind.i64 0, Value.int IntKind.u64 0, Value.int IntKind.u64 0] 112))
    have HB2 := Aside0.mk (below_alloc HB.out (Obj.cells #[Value.slice none 0 0, Value.int IntKind.i64 0, Value.int IntKind.i64 0, Value.int IntKind.u64 0, Value.int IntKind.u64 0] 112))
    have e60 : ∀ o, World.cell? (w1.alloc o) ⟨w.heap.size, 0, none⟩ = some (.slice none 0 0) := fun o => blk_cell (blk_alloc BK.out o) 0
    have e61 : ∀ o, World.cell? (w1.alloc o) ⟨w.heap.size, 1, none⟩ = some (.int .u64 0) := fun o => blk_cell (blk_alloc BK.out o) 1
    have e62 : ∀ o, World.cell? (w1.alloc o) ⟨w.heap.size, 2, none⟩ = some (.int .u64 0) := fun o => blk_cell (blk_alloc BK.out o) 2
    have e63 : ∀ o, World.cell? (w1.alloc o) ⟨w.heap.size, 3, none⟩ = some (.int .i64 0) := fun o => blk_cell (blk_alloc BK.out o) 3
    have e64 : ∀ o, World.cell? (w1.alloc o) ⟨w.heap.size, 4, none⟩ = some (.int .i64 0) := fun o => blk_cell (blk_alloc BK.out o) 4
    have z6 := fun o j => blk_frozen (blk_alloc BK.out o) j
    go_wp2
    refine bodyPost_ret (results_ct rfl _ _ w.heap.size 61 #[.slice none 0 0, .int .u64 0, .int .u64 0, .int .i64 0, .int .i64 0] (0, 0) _ rfl (fin5p _ _ _ _ _ BK2.out) Tryd.underlying61 rfl (by kernel_rfl)) rfl ?_
    exact ⟨_, rfl, Kd.R_nil _ _ _ _ _, bel_grown HB2.out (grown5 _ _ _ _ _) (Nat.le_refl _)⟩
  · rw [if_neg hc] at h
    by_cases hc2 : 0 ≤ a0 ∧ a1 < 18446744073709551616
    case neg => rw [if_neg hc2] at h; cases h
    rw [if_pos hc2] at h
    simp only [Option.some.injEq, Prod.mk.injEq] at h
    obtain ⟨i, rfl⟩ : ∃ i : Nat, a0 = (i : Int) := ⟨a0.toNat, by omega⟩
    obtain ⟨n, rfl⟩ : ∃ n : Nat, a1 = (n : Int) := ⟨a1.toNat, by omega⟩
    rw [Int.toNat_natCast, Int.toNat_natCast] at h
    obtain ⟨rfl, h1, h2, h3, h4, rfl⟩ := h
    have hi : i < n := by omega
    have hn : n < 18446744073709551616 := by omega
    have hA := fun W hW => proofInclusion.calls i n hi hn W hW
    have hF := fromProof_eq (incIds i n) r3 r4 r1 r2 (by have := incIds_len i n hi hn; omega)
    rw [h1, h2, h3, h4] at hA
    generalize (incIds i n).map inode = ri at hF ⊢
    generalize (incIds i n).length + 1 = K at hF
    generalize (incIds i n).map cnode = rc at hF hA
    have HA := Aside0.mk hA
    have HF := Aside0.mk hF
    have HGL := Aside0.mk hG
    clear hA hF hG hi hn h1 h2 h3 h4 hc hc2
    go_enter Tryd.func31, Tryd.ntmps31
    go_wp2_with (fail)
    have BK := Aside0.mk (blk_new w (Obj.cells #[Value.slice none 0 0, Value.int IntKind.u64 0, Value.int IntKind.u64 0, Value.int IntKind.i64 0, Value.int IntKind.i64 0] 61))
    have HB := Aside0.mk (below_alloc (Below.refl _ w) (Obj.cells #[Value.slice none 0 0, Value.int IntKind.u64 0, Value.int IntKind.u64 0, Value.int IntKind.i64 0, Value.int IntKind.i64 0] 61))
    generalize w.alloc (Obj.cells #[Value.slice none 0 0, Value.int IntKind.u64 0, Value.int IntKind.u64 0, Value.int IntKind.i64 0, Value.int IntKind.i64 0] 61) = W at BK HB ⊢
    refine (HA.out W (HGL.out.below HB.out)).mono ?_
    rintro ex w1 ⟨v, rfl, hQ, hb⟩
    dsimp only
    replace BK := Aside0.mk (blk_below BK.out hb)
    replace HB := Aside0.mk (below_step HB.out hb)
    obtain ⟨A, c, rfl, hlc⟩ := Kd.Q_slice hQ
    have HC := Aside0.mk (Kd.Q_reads' hQ).2.2
    have HLC := Aside0.mk hlc
    clear hb hQ hlc
    go_wp2_with (fail)
    have BK2 := Aside0.mk (blk_alloc BK.out (Obj.cells #[Value.slice A rc.length c, Value.int IntKind.i64 r3, Value.int IntKind.i64 r4, Value.int IntKind.u64 r1, Value.int IntKind.u64 r2] 112))
    have HB2 := Aside0.mk (below_alloc HB.out (Obj.cells #[Value.slice A rc.length c, Value.int IntKind.i64 r3, Value.int IntKind.i64 r4, Value.int IntKind.u64 r1, Value.int IntKind.u64 r2] 112))
    have HC2 := Aside0.mk (Kd.C_alloc HC.out (Obj.cells #[Value.slice A rc.length c, Value.int IntKind.i64 r3, Value.int IntKind.i64 r4, Value.int IntKind.u64 r1, Value.int IntKind.u64 r2] 112))
    generalize w1.alloc (Obj.cells #[Value.slice A rc.length c, Value.int IntKind.i64 r3, Value.int IntKind.i64 r4, Value.int IntKind.u64 r1, Value.int IntKind.u64 r2] 112) = W2 at BK2 HB2 HC2 ⊢
    refine (impl_fromProof.calls K A c rc r3 r4 r1 r2 ri r1 r2 r3 r4 W2 HC2.out HLC.out HF.out).mono ?_
    rintro ex w3 ⟨v3, rfl, hR, hb⟩
    dsimp only
    have HLT := Aside0.mk (blk_lt BK2.out)
    replace BK := Aside0.mk (blk_below BK2.out hb)
    replace HB := Aside0.mk (below_step HB2.out hb)
    have HR := Aside0.mk (Kd.R_bound hR)
    obtain ⟨A3, c3, rfl⟩ := Kd.R_slice hR
    clear hb hR
    have e60 : World.cell? w3 ⟨w.heap.size, 0, none⟩ = some (.slice none 0 0) := blk_cell BK.out 0
    have e61 : World.cell? w3 ⟨w.heap.size, 1, none⟩ = some (.int .u64 0) := blk_cell BK.out 1
    have e62 : World.cell? w3 ⟨w.heap.size, 2, none⟩ = some (.int .u64 0) := blk_cell BK.out 2
    have e63 : World.cell? w3 ⟨w.heap.size, 3, none⟩ = some (.int .i64 0) := blk_cell BK.out 3
    have e64 : World.cell? w3 ⟨w.heap.size, 4, none⟩ = some (.int .i64 0) := blk_cell BK.out 4
    have z6 := blk_frozen BK.out
    go_wp2
    refine bodyPost_ret (results_ct rfl _ _ w.heap.size 61 #[.slice A3 ri.length c3, .int .u64 r1, .int .u64 r2, .int .i64 r3, .int .i64 r4] (0, 0) _ rfl (fin5p _ _ _ _ _ BK.out) Tryd.underlying61 rfl (by kernel_rfl)) rfl ?_
    refine ⟨_, rfl, ?_, bel_grown HB.out (grown5 _ _ _ _ _) (Nat.le_refl _)⟩
    exact Kd.R_lower (Kd.R_mono (Kd.R_grown HR.out (grown5 _ _ _ _ _) (fun k_ hk h => by injection h with h; have := hk.2.1; have := HLT.out; omega)) (fun _ _ => trivial)) (Nat.le_of_lt HLT.out)
end Go.Proofs.YtielnphmcaecdaaDoor.PAll
