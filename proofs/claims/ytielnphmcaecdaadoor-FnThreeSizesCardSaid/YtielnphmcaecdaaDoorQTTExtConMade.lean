-- Written by a program of this session (wip/tools)
import Derived.Test.YtielnphmcaecdaaDoorQTTExtRangeN
import Derived.Test.YtielnphmcaecdaaDoorQTTExtTz
import Derived.Test.YtielnphmcaecdaaDoorQTTExtRangeA3
set_option maxHeartbeats 8000000
set_option maxRecDepth 100000
set_option linter.unusedVariables false
set_option linter.unusedSimpArgs false
namespace Go.Proofs.YtielnphmcaecdaaDoor.PAll
open Go.IntWalk Go.RowKit Go.Proofs.YtielnphmcaecdaaDoor.Num Go.Proofs.YtielnphmcaecdaaDoor.Mth Go.Proofs.YtielnphmcaecdaaDoorW.PrintWords Go.Proofs.YtielnphmcaecdaaDoorW.PrintLast Go.Proofs.YtielnphmcaecdaaDoorW.PrintMore
def skIds (i l n : Nat) : List (Nat × Nat) := ndS i l n ++ (Nds 0 (ndE i l n) n).reverse ++ (Nds 0 0 (ndB i l n)).reverse
def skBegin (i l n : Nat) : Nat := if (Nds 0 (ndE i l n) n).length = 0 then 0 else ndM i l n
def skEnd (i l n : Nat) : Nat := if (Nds 0 (ndE i l n) n).length = 0 then 0 else ndM i l n + (Nds 0 (ndE i l n) n).length
theorem skip_nd (i l n : Nat) (hl : l ≤ 63) (hi : i < n / 2 ^ l) (hn : n < 18446744073709551616) (a b : Int) :
 proof_Nodes_skipFirst.f ((ndIds i l n).map cnode) (ndBegin i l n : Int) (ndEnd i l n : Int) a b = some ((skIds i l n).map cnode, (skBegin i l n : Int), (skEnd i l n : Int), a, b) := by
 have lenR : (Nds 0 (ndE i l n) n).length ≤ 128 := Nds_len 0 _ _ 64 hn
 have hm := ndM_le i l n hl hi hn
 have e : ((ndIds i l n).map cnode).drop (1 : Int).toNat = (skIds i l n).map cnode := by
  rw [show (1 : Int).toNat = 1 from rfl]; unfold ndIds skIds; rw [List.map_cons]; rfl
 have hl : 1 ≤ (((ndIds i l n).map cnode).length : Int) := by rw [List.length_map]; unfold ndIds; rw [List.length_cons]; omega
 unfold proof_Nodes_skipFirst.f
 rw [if_pos hl, e]
 show (if (ndBegin i l n : Int) < (ndEnd i l n : Int) then _ else _) = _
 unfold ndBegin ndEnd skBegin skEnd
 by_cases h : (Nds 0 (ndE i l n) n).length = 0
 ·rw [if_pos h, if_pos h, if_pos h, if_pos h, if_neg (by omega)]
 ·rw [if_neg h, if_neg h, if_neg h, if_neg h, if_pos (by omega)]
  rw [show wrap64 (((1 + ndM i l n : Nat) : Int) - 1) = (ndM i l n : Int) by unfold wrap64; omega, show wrap64 (((1 + ndM i l n + (Nds 0 (ndE i l n) n).length : Nat) : Int) - 1) = ((ndM i l n + (Nds 0 (ndE i l n) n).length : Nat) : Int) by unfold wrap64; omega]
theorem proofConsistency.calls (l M s n : Nat) (hM : M % 2 = 1) (hs : s = 2 ^ l * M) (hlt : s < n) (hn : n < 18446744073709551616) (w : World) (hG : Glob w) :
 Calls Tryd.prog 63 #[.int .u64 (s : Int), .int .u64 (n : Int)] w fun ex w' => ∃ v : Value, ex = .returned (.tuple #[.agg #[v, .int .i64 ((if M = 1 then skBegin (M - 1) l n else ndBegin (M - 1) l n : Nat) : Int), .int .i64 ((if M = 1 then skEnd (M - 1) l n else ndEnd (M - 1) l n : Nat) : Int), .int .u64 ((ndEph (M - 1) l n).1 : Int), .int .u64 ((ndEph (M - 1) l n).2 : Int)], .nilIface]) ∧ Kd.Q k99 99 w' w.heap.size (fun k_ => w.heap.size ≤ k_) v ((if M = 1 then skIds (M - 1) l n else ndIds (M - 1) l n).map cnode) ∧ Below w.heap.size w w' := by
 have hp := Nat.two_pow_pos l
 have hMp : 0 < M := by omega
 have hs0 : 0 < s := by rw [hs]; exact Nat.mul_pos hp hMp
 have hl : l ≤ 63 := by
  apply Nat.le_of_not_lt; intro h
  have h1 := Nat.pow_le_pow_right (n := 2) (by decide) (show 64 ≤ l by omega)
  have h2 : 2 ^ l ≤ 2 ^ l * M := Nat.le_mul_of_pos_right _ hMp
  have : 2 ^ 64 = 18446744073709551616 := by decide
  omega
 have hdiv : (s - 1) / 2 ^ l = M - 1 := by
  rw [hs]
  apply Nat.div_eq_of_lt_le
  ·have : 2 ^ l * M = (M - 1) * 2 ^ l + 2 ^ l := by rw [Nat.mul_comm, ← Nat.succ_mul]; congr 1; omega
   omega
  ·have : 2 ^ l * M = (M - 1 + 1) * 2 ^ l := by rw [Nat.mul_comm]; congr 1; omega
   have : 0 < 2 ^ l * M := Nat.mul_pos hp hMp
   show 2 ^ l * M - 1 < (M - 1).succ * 2 ^ l
   rw [show (M - 1).succ = M - 1 + 1 from rfl]
   omega
 have hi : M - 1 < n / 2 ^ l := by
  have : M ≤ n / 2 ^ l := (Nat.le_div_iff_mul_le hp).2 (by rw [Nat.mul_comm, ← hs]; omega)
  omega
 have htz : bits_TrailingZeros64.f (s : Int) = some (l : Int) := by rw [hs]; exact bits_TrailingZeros64.eq l M hM (by rw [← hs]; omega)
 have hS := skip_nd (M - 1) l n hl hi hn ((ndEph (M - 1) l n).1 : Int) ((ndEph (M - 1) l n).2 : Int)
 have hA := fun W hW => nodesAt.calls (M - 1) l n hl hi hn W hW
 have hidiv : ((s : Int) - 1) / 2 ^ l = ((M - 1 : Nat) : Int) := by
  rw [← hdiv, show ((s : Int) - 1) = ((s - 1 : Nat) : Int) by omega, Int.natCast_ediv, Int.natCast_pow]; rfl
 have i1 : (s : Int) < 18446744073709551616 := by omega
 have i0 : 1 ≤ (s : Int) := by omega
 have l1 : (l : Int) ≤ 63 := by omega
 have l0 : 0 ≤ (l : Int) := by omega
 have b0 : decide ((s : Int) > (n : Int)) = false := decide_eq_false (by omega)
 have b1 : decide ((n : Int) < (s : Int)) = false := decide_eq_false (by omega)
 have b2 : decide (n < s) = false := decide_eq_false (by omega)
 have c0 : ((s : Int) == (n : Int)) = false := beq_eq_false_iff_ne.mpr (by omega)
 have c1 : ((s : Int) == 0) = false := beq_eq_false_iff_ne.mpr (by omega)
 have c2 : (s == n) = false := beq_eq_false_iff_ne.mpr (by omega)
 have c3 : (s == 0) = false := beq_eq_false_iff_ne.mpr (by omega)
 have HTZ := Aside0.mk htz
 have HSK := Aside0.mk hS
 have HNA := Aside0.mk hA
 have HGL := Aside0.mk hG
 have HM := Aside0.mk hM
 have HMP := Aside0.mk hMp
 clear htz hS hA hG hi hdiv hp hs0 hs hM hlt hMp hn hl
 obtain ⟨i, hi⟩ : ∃ i, M - 1 = i := ⟨_, rfl⟩
 rw [hi] at HSK HNA hidiv ⊢
 have HI := Aside0.mk hi
 clear hi
 by_cases h1 : M = 1
 ·have hi0 : i = 0 := by have := HI.out; omega
  rw [if_pos h1, if_pos h1, if_pos h1]
  have d1 : ((i : Int) == 0) = true := beq_iff_eq.mpr (by omega)
  have d2 : (i == 0) = true := beq_iff_eq.mpr hi0
  have HI0 := Aside0.mk hi0
  clear h1 hi0
  generalize ((ndEph i l n).1 : Int) = z1 at HSK HNA ⊢
  generalize ((ndEph i l n).2 : Int) = z2 at HSK HNA ⊢
  generalize ((skBegin i l n : Nat) : Int) = zb at HSK ⊢
  generalize ((skEnd i l n : Nat) : Int) = ze at HSK ⊢
  generalize (skIds i l n).map cnode = zl at HSK ⊢
  generalize ((ndBegin i l n : Nat) : Int) = yb at HSK HNA
  generalize ((ndEnd i l n : Nat) : Int) = ye at HSK HNA
  generalize (ndIds i l n).map cnode = yl at HSK HNA
  go_enter Tryd.func63, Tryd.ntmps63
  go_wp2_with (fail)
  have BK := Aside0.mk (blk_new w (Obj.cells #[Value.slice none 0 0, Value.int IntKind.i64 0, Value.int IntKind.i64 0, Value.int IntKind.u64 0, Value.int IntKind.u64 0] 112))
  have HB := Aside0.mk (below_alloc (Below.refl _ w) (Obj.cells #[Value.slice none 0 0, Value.int IntKind.i64 0, Value.int IntKind.i64 0, Value.int IntKind.u64 0, Value.int IntKind.u64 0] 112))
  generalize w.alloc (Obj.cells #[Value.slice none 0 0, Value.int IntKind.i64 0, Value.int IntKind.i64 0, Value.int IntKind.u64 0, Value.int IntKind.u64 0] 112) = W at BK HB ⊢
  refine (bits_TrailingZeros64.calls _ _ W (HGL.out.below HB.out) HTZ.out).mono ?_
  rintro ex w1 ⟨rfl, ⟨d1, rfl⟩⟩
  dsimp only
  go_wp2_with (fail)
  replace BK := Aside0.mk (blk_drewN BK.out d1)
  replace HB := Aside0.mk (pw_below_drewN HB.out d1)
  generalize W.drewN d1 = W1 at BK HB ⊢
  have HS := Aside0.mk (blk_lt BK.out)
  refine (HNA.out W1 (HGL.out.below HB.out)).mono ?_
  rintro ex w2 ⟨v, rfl, hR, hb⟩
  dsimp only
  replace BK := Aside0.mk (blk_below BK.out hb)
  replace HB := Aside0.mk (below_step HB.out hb)
  have HR := Aside0.mk (Kd.R_mono (ok' := fun k_ => w.heap.size < k_) (Kd.R_lower hR (Nat.le_of_lt HS.out)) (fun k_ hk => Nat.lt_of_lt_of_le HS.out hk))
  clear hR hb
  obtain ⟨A, c, rfl⟩ := Kd.R_slice HR.out
  go_wp2_with (fail)
  have BK2 := Aside0.mk (blk_alloc BK.out (Obj.cells #[Value.slice A yl.length c, Value.int IntKind.i64 yb, Value.int IntKind.i64 ye, Value.int IntKind.u64 z1, Value.int IntKind.u64 z2] 112))
  have HB2 := Aside0.mk (below_alloc HB.out (Obj.cells #[Value.slice A yl.length c, Value.int IntKind.i64 yb, Value.int IntKind.i64 ye, Value.int IntKind.u64 z1, Value.int IntKind.u64 z2] 112))
  have HR2 := Aside0.mk (Kd.R_alloc HR.out (Obj.cells #[Value.slice A yl.length c, Value.int IntKind.i64 yb, Value.int IntKind.i64 ye, Value.int IntKind.u64 z1, Value.int IntKind.u64 z2] 112))
  generalize w2.alloc (Obj.cells #[Value.slice A yl.length c, Value.int IntKind.i64 yb, Value.int IntKind.i64 ye, Value.int IntKind.u64 z1, Value.int IntKind.u64 z2] 112) = W2 at BK2 HB2 HR2 ⊢
  refine (proof_Nodes_skipFirst.calls (fun k_ => w.heap.size < k_) _ _ _ _ _ _ _ _ _ _ _ w W2 HB2.out HR2.out HSK.out).mono ?_
  rintro ex w3 ⟨v2, rfl, hQ, hB2, hK⟩
  dsimp only
  replace HS := Aside0.mk (blk_lt BK2.out)
  replace BK := Aside0.mk (blk_kept BK2.out hK (fun h => Nat.lt_irrefl _ h))
  have HQ := Aside0.mk (Kd.Q_mono (ok' := fun k_ => w.heap.size < k_) hQ (fun k_ hk => hk.elim (fun h => h) (fun h => Nat.lt_of_lt_of_le HS.out h)))
  replace HB := Aside0.mk hB2
  clear hQ hB2 hK
  obtain ⟨A2, c2, rfl, hlc⟩ := Kd.Q_slice HQ.out
  clear hlc
  have e60 : World.cell? w3 ⟨w.heap.size, 0, none⟩ = some (.slice none 0 0) := blk_cell BK.out 0
  have e61 : World.cell? w3 ⟨w.heap.size, 1, none⟩ = some (.int .i64 0) := blk_cell BK.out 1
  have e62 : World.cell? w3 ⟨w.heap.size, 2, none⟩ = some (.int .i64 0) := blk_cell BK.out 2
  have e63 : World.cell? w3 ⟨w.heap.size, 3, none⟩ = some (.int .u64 0) := blk_cell BK.out 3
  have e64 : World.cell? w3 ⟨w.heap.size, 4, none⟩ = some (.int .u64 0) := blk_cell BK.out 4
  have z6 := blk_frozen BK.out
  go_wp2
  refine bodyPost_ret (results_ct rfl _ _ w.heap.size 112 #[.slice A2 zl.length c2, .int .i64 zb, .int .i64 ze, .int .u64 z1, .int .u64 z2] (0, 0) _ rfl (fin5 _ _ _ _ _ BK.out) Tryd.underlying112 rfl (by kernel_rfl)) rfl ?_
  refine ⟨.slice A2 zl.length c2, rfl, ?_, bel_grown HB.out (grown5 _ _ _ _ _) (Nat.le_refl _)⟩
  exact Kd.Q_mono (Kd.Q_grown HQ.out (grown5 _ _ _ _ _) (fun k_ hk h => by injection h with h; omega)) (fun k_ hk => Nat.le_of_lt hk)
 ·have hi0 : ¬ i = 0 := by have := HI.out; have := HMP.out; omega
  rw [if_neg h1, if_neg h1, if_neg h1]
  have d1 : ((i : Int) == 0) = false := beq_eq_false_iff_ne.mpr (by omega)
  have d2 : (i == 0) = false := beq_eq_false_iff_ne.mpr hi0
  clear h1 hi0
  generalize ((ndEph i l n).1 : Int) = z1 at HSK HNA ⊢
  generalize ((ndEph i l n).2 : Int) = z2 at HSK HNA ⊢
  clear HSK
  generalize ((ndBegin i l n : Nat) : Int) = yb at HNA ⊢
  generalize ((ndEnd i l n : Nat) : Int) = ye at HNA ⊢
  generalize (ndIds i l n).map cnode = yl at HNA ⊢
  go_enter Tryd.func63, Tryd.ntmps63
  go_wp2_with (fail)
  have BK := Aside0.mk (blk_new w (Obj.cells #[Value.slice none 0 0, Value.int IntKind.i64 0, Value.int IntKind.i64 0, Value.int IntKind.u64 0, Value.int IntKind.u64 0] 112))
  have HB := Aside0.mk (below_alloc (Below.refl _ w) (Obj.cells #[Value.slice none 0 0, Value.int IntKind.i64 0, Value.int IntKind.i64 0, Value.int IntKind.u64 0, Value.int IntKind.u64 0] 112))
  generalize w.alloc (Obj.cells #[Value.slice none 0 0, Value.int IntKind.i64 0, Value.int IntKind.i64 0, Value.int IntKind.u64 0, Value.int IntKind.u64 0] 112) = W at BK HB ⊢
  refine (bits_TrailingZeros64.calls _ _ W (HGL.out.below HB.out) HTZ.out).mono ?_
  rintro ex w1 ⟨rfl, ⟨d1, rfl⟩⟩
  dsimp only
  go_wp2_with (fail)
  replace BK := Aside0.mk (blk_drewN BK.out d1)
  replace HB := Aside0.mk (pw_below_drewN HB.out d1)
  generalize W.drewN d1 = W1 at BK HB ⊢
  have HS := Aside0.mk (blk_lt BK.out)
  refine (HNA.out W1 (HGL.out.below HB.out)).mono ?_
  rintro ex w2 ⟨v, rfl, hR, hb⟩
  dsimp only
  replace BK := Aside0.mk (blk_below BK.out hb)
  replace HB := Aside0.mk (below_step HB.out hb)
  have HR := Aside0.mk (Kd.R_mono (ok' := fun k_ => w.heap.size < k_) (Kd.R_lower hR (Nat.le_of_lt HS.out)) (fun k_ hk => Nat.lt_of_lt_of_le HS.out hk))
  clear hR hb
  obtain ⟨A, c, rfl⟩ := Kd.R_slice HR.out
  have BK2 := fun o => blk_alloc BK.out o
  have HB2 := Aside0.mk (fun o => below_alloc HB.out o)
  have HQ := Aside0.mk (Kd.Q_of_R (Kd.R_alloc HR.out (Obj.cells #[Value.slice A yl.length c, Value.int IntKind.i64 yb, Value.int IntKind.i64 ye, Value.int IntKind.u64 z1, Value.int IntKind.u64 z2] 112)))
  have e60 : ∀ o, World.cell? (w2.alloc o) ⟨w.heap.size, 0, none⟩ = some (.slice none 0 0) := fun o => blk_cell (BK2 o) 0
  have e61 : ∀ o, World.cell? (w2.alloc o) ⟨w.heap.size, 1, none⟩ = some (.int .i64 0) := fun o => blk_cell (BK2 o) 1
  have e62 : ∀ o, World.cell? (w2.alloc o) ⟨w.heap.size, 2, none⟩ = some (.int .i64 0) := fun o => blk_cell (BK2 o) 2
  have e63 : ∀ o, World.cell? (w2.alloc o) ⟨w.heap.size, 3, none⟩ = some (.int .u64 0) := fun o => blk_cell (BK2 o) 3
  have e64 : ∀ o, World.cell? (w2.alloc o) ⟨w.heap.size, 4, none⟩ = some (.int .u64 0) := fun o => blk_cell (BK2 o) 4
  have z6 := fun o j => blk_frozen (BK2 o) j
  have BK3 := Aside0.mk BK2
  clear BK2
  go_wp2
  refine bodyPost_ret (results_ct rfl _ _ w.heap.size 112 #[.slice A yl.length c, .int .i64 yb, .int .i64 ye, .int .u64 z1, .int .u64 z2] (0, 0) _ rfl (fin5 _ _ _ _ _ (BK3.out _)) Tryd.underlying112 rfl (by kernel_rfl)) rfl ?_
  refine ⟨.slice A yl.length c, rfl, ?_, bel_grown (HB2.out _) (grown5 _ _ _ _ _) (Nat.le_refl _)⟩
  exact Kd.Q_mono (Kd.Q_grown HQ.out (grown5 _ _ _ _ _) (fun k_ hk h => by injection h with h; omega)) (fun k_ hk => Nat.le_of_lt hk)
theorem proofConsistencyNo.calls (s n : Int) (hi : n < s) (w : World) :
 Calls Tryd.prog 63 #[.int .u64 s, .int .u64 n] w fun ex w' => ∃ t a, ex = .returned (.tuple #[.agg #[.slice none 0 0, .int .i64 0, .int .i64 0, .int .u64 0, .int .u64 0], .iface t (.pointer (some a))]) ∧ Below w.heap.size w w' := by
 have b0 : decide (s > n) = true := decide_eq_true hi
 have b1 : decide (n < s) = true := decide_eq_true hi
 clear hi
 go_enter Tryd.func63, Tryd.ntmps63
 go_wp2_with (fail)
 have BK := Aside0.mk (blk_new w (Obj.cells #[Value.slice none 0 0, Value.int IntKind.i64 0, Value.int IntKind.i64 0, Value.int IntKind.u64 0, Value.int IntKind.u64 0] 112))
 have HB := Aside0.mk (below_alloc (Below.refl _ w) (Obj.cells #[Value.slice none 0 0, Value.int IntKind.i64 0, Value.int IntKind.i64 0, Value.int IntKind.u64 0, Value.int IntKind.u64 0] 112))
 generalize w.alloc (Obj.cells #[Value.slice none 0 0, Value.int IntKind.i64 0, Value.int IntKind.i64 0, Value.int IntKind.u64 0, Value.int IntKind.u64 0] 112) = W at BK HB ⊢
 refine (errNew.calls _ _).mono ?_
 rintro ex w2 ⟨t, q, rfl, hb⟩
 dsimp only
 replace BK := Aside0.mk (blk_below BK.out hb)
 replace HB := Aside0.mk (below_step HB.out hb)
 clear hb
 have e60 : World.cell? w2 ⟨w.heap.size, 0, none⟩ = some (.slice none 0 0) := blk_cell BK.out 0
 have e61 : World.cell? w2 ⟨w.heap.size, 1, none⟩ = some (.int .i64 0) := blk_cell BK.out 1
 have e62 : World.cell? w2 ⟨w.heap.size, 2, none⟩ = some (.int .i64 0) := blk_cell BK.out 2
 have e63 : World.cell? w2 ⟨w.heap.size, 3, none⟩ = some (.int .u64 0) := blk_cell BK.out 3
 have e64 : World.cell? w2 ⟨w.heap.size, 4, none⟩ = some (.int .u64 0) := blk_cell BK.out 4
 have z6 := blk_frozen BK.out
 go_wp2
 refine bodyPost_ret (results_ct rfl _ _ w.heap.size 112 #[.slice none 0 0, .int .i64 0, .int .i64 0, .int .u64 0, .int .u64 0] (0, 0) _ rfl (fin5 _ _ _ _ _ BK.out) Tryd.underlying112 rfl (by kernel_rfl)) rfl ?_
 exact ⟨t, q, rfl, bel_grown HB.out (grown5 _ _ _ _ _) (Nat.le_refl _)⟩
theorem nil99 (w : World) (o : Obj) : Kd.Q k99 99 ((w.alloc o).alloc (.cells #[] 99)) w.heap.size (fun k_ => w.heap.size ≤ k_) (.slice (some ⟨w.heap.size + 1, 0, none⟩) 0 0) [] := by
 have hz : (w.alloc o).heap.size = w.heap.size + 1 := by simp
 have h := Kd.cap_row k99 (W := w.alloc o) w.heap.size 99 (n := 0) (z := Value.agg #[.int .u64 0, .int .u64 0]) (bytes := 16) (by omega) (by decide) (by rw [hz]; omega) (ok := fun k_ => w.heap.size ≤ k_) (by rw [hz]; omega)
 have hm : madeCells (Value.agg #[.int .u64 0, .int .u64 0]).cells (Int.toNat 0 * (k99).sz) = #[] := by
  apply Array.eq_empty_of_size_eq_zero
  rw [size_madeCells]
  exact Nat.zero_mul _
 rw [hz, hm] at h
 exact Kd.Q_of_R h
theorem proofConsistencyNil.calls (s n : Int) (hle : s ≤ n) (hi : s = n ∨ s = 0) (w : World) :
 Calls Tryd.prog 63 #[.int .u64 s, .int .u64 n] w fun ex w' => ∃ v, ex = .returned (.tuple #[.agg #[v, .int .i64 0, .int .i64 0, .int .u64 0, .int .u64 0], .nilIface]) ∧ Kd.Q k99 99 w' w.heap.size (fun k_ => w.heap.size ≤ k_) v [] ∧ Below w.heap.size w w' := by
 have b0 : decide (s > n) = false := decide_eq_false (by omega)
 have b1 : decide (n < s) = false := decide_eq_false (by omega)
 by_cases h : s = n
 ·have c0 : (s == n) = true := beq_iff_eq.mpr h
  clear hi hle h
  go_enter Tryd.func63, Tryd.ntmps63
  go_wp2_with (fail)
  have hQ := nil99 w (Obj.cells #[Value.slice (some ⟨w.heap.size + 1, 0, none⟩) 0 0, Value.int IntKind.i64 0, Value.int IntKind.i64 0, Value.int IntKind.u64 0, Value.int IntKind.u64 0] 112)
  have hK := blk_alloc (blk_new w (Obj.cells #[Value.slice (some ⟨w.heap.size + 1, 0, none⟩) 0 0, Value.int IntKind.i64 0, Value.int IntKind.i64 0, Value.int IntKind.u64 0, Value.int IntKind.u64 0] 112)) (Obj.cells #[] 99)
  refine bodyPost_ret (results_ct rfl _ _ w.heap.size 112 #[.slice (some ⟨w.heap.size + 1, 0, none⟩) 0 0, .int .i64 0, .int .i64 0, .int .u64 0, .int .u64 0] (0, 0) _ rfl hK Tryd.underlying112 rfl (by kernel_rfl)) rfl ?_
  exact ⟨_, rfl, hQ, below_alloc (below_alloc (Below.refl _ _) _) _⟩
 ·have c0 : (s == n) = false := beq_eq_false_iff_ne.mpr h
  have c1 : (s == 0) = true := beq_iff_eq.mpr (hi.resolve_left h)
  clear hi hle h
  go_enter Tryd.func63, Tryd.ntmps63
  go_wp2_with (fail)
  have hQ := nil99 w (Obj.cells #[Value.slice (some ⟨w.heap.size + 1, 0, none⟩) 0 0, Value.int IntKind.i64 0, Value.int IntKind.i64 0, Value.int IntKind.u64 0, Value.int IntKind.u64 0] 112)
  have hK := blk_alloc (blk_new w (Obj.cells #[Value.slice (some ⟨w.heap.size + 1, 0, none⟩) 0 0, Value.int IntKind.i64 0, Value.int IntKind.i64 0, Value.int IntKind.u64 0, Value.int IntKind.u64 0] 112)) (Obj.cells #[] 99)
  refine bodyPost_ret (results_ct rfl _ _ w.heap.size 112 #[.slice (some ⟨w.heap.size + 1, 0, none⟩) 0 0, .int .i64 0, .int .i64 0, .int .u64 0, .int .u64 0] (0, 0) _ rfl hK Tryd.underlying112 rfl (by kernel_rfl)) rfl ?_
  exact ⟨_, rfl, hQ, below_alloc (below_alloc (Below.refl _ _) _) _⟩
theorem implCons_yes (a0 a1 r1 r2 r3 r4 : Int) (rc : List S99) (ri : List S49) (K : Nat) (w : World) (hG : Glob w)
 (hA : ∀ W, Glob W → Calls Tryd.prog 63 #[.int .u64 a0, .int .u64 a1] W fun ex w' => ∃ v : Value, ex = .returned (.tuple #[.agg #[v, .int .i64 r3, .int .i64 r4, .int .u64 r1, .int .u64 r2], .nilIface]) ∧ Kd.Q k99 99 w' W.heap.size (fun k_ => W.heap.size ≤ k_) v rc ∧ Below W.heap.size W w')
 (hF : impl_fromProof.f K rc r3 r4 r1 r2 = some (ri, r1, r2, r3, r4)) :
 Calls Tryd.prog 79 #[.int .u64 a0, .int .u64 a1] w fun ex w' => ∃ v : Value, ex = .returned (.tuple #[.agg #[v, .int .u64 r1, .int .u64 r2, .int .i64 r3, .int .i64 r4], .bool true]) ∧ Kd.R k49 49 w' w.heap.size (fun _ => True) v ri ∧ Below w.heap.size w w' := by
 have HA := Aside0.mk hA
 have HF := Aside0.mk hF
 have HGL := Aside0.mk hG
 clear hA hF hG
 go_enter Tryd.func79, Tryd.ntmps79
 go_wp2_with (fail)
 have BK := Aside0.mk (blk_new w (Obj.cells #[Value.slice none 0 0, Value.int IntKind.u64 0, Value.int IntKind.u64 0, Value.int IntKind.i64 0, Value.int IntKind.i64 0] 61))
 have HB := Aside0.mk (below_alloc (Below.refl _ w) (Obj.cells #[Value.slice none 0 0, Value.int IntKind.u64 0, Value.int IntKind.u64 0, Value.int IntKind.i64 0, Value.int IntKind.i64 0] 61))
 generalize w.alloc (Obj.cells #[Value.slice none 0 0, Value.int IntKind.u64 0, Value.int IntKind.u64 0, Value.int IntKind.i64 0, Value.int IntKind.i64 0] 61) = W at BK HB ⊢
 refine (HA.out W (HGL.out.below HB.out)).mono ?_
 rintro ex w1 ⟨v, rfl, hQ, hb⟩
 dsimp only
 replace BK := Aside0.mk (blk_below BK.out hb)
 replace HB := Aside0.mk (below_step HB.out hb)
 obtain ⟨A, c, rfl, hlc⟩ := Kd.Q_slice hQ
 have HC := Aside0.mk (Kd.Q_reads' hQ).2.2
 have HLC := Aside0.mk hlc
 clear hb hQ hlc
 go_wp2_with (fail)
 have BK2 := Aside0.mk (blk_alloc BK.out (Obj.cells #[Value.slice A rc.length c, Value.int IntKind.i64 r3, Value.int IntKind.i64 r4, Value.int IntKind.u64 r1, Value.int IntKind.u64 r2] 112))
 have HB2 := Aside0.mk (below_alloc HB.out (Obj.cells #[Value.slice A rc.length c, Value.int IntKind.i64 r3, Value.int IntKind.i64 r4, Value.int IntKind.u64 r1, Value.int IntKind.u64 r2] 112))
 have HC2 := Aside0.mk (Kd.C_alloc HC.out (Obj.cells #[Value.slice A rc.length c, Value.int IntKind.i64 r3, Value.int IntKind.i64 r4, Value.int IntKind.u64 r1, Value.int IntKind.u64 r2] 112))
 generalize w1.alloc (Obj.cells #[Value.slice A rc.length c, Value.int IntKind.i64 r3, Value.int IntKind.i64 r4, Value.int IntKind.u64 r1, Value.int IntKind.u64 r2] 112) = W2 at BK2 HB2 HC2 ⊢
 refine (impl_fromProof.calls K A c rc r3 r4 r1 r2 ri r1 r2 r3 r4 W2 HC2.out HLC.out HF.out).mono ?_
 rintro ex w3 ⟨v3, rfl, hR, hb⟩
 dsimp only
 have HLT := Aside0.mk (blk_lt BK2.out)
 replace BK := Aside0.mk (blk_below BK2.out hb)
 replace HB := Aside0.mk (below_step HB2.out hb)
 have HR := Aside0.mk (Kd.R_bound hR)
 obtain ⟨A3, c3, rfl⟩ := Kd.R_slice hR
 clear hb hR
 have e60 : World.cell? w3 ⟨w.heap.size, 0, none⟩ = some (.slice none 0 0) := blk_cell BK.out 0
 have e61 : World.cell? w3 ⟨w.heap.size, 1, none⟩ = some (.int .u64 0) := blk_cell BK.out 1
 have e62 : World.cell? w3 ⟨w.heap.size, 2, none⟩ = some (.int .u64 0) := blk_cell BK.out 2
 have e63 : World.cell? w3 ⟨w.heap.size, 3, none⟩ = some (.int .i64 0) := blk_cell BK.out 3
 have e64 : World.cell? w3 ⟨w.heap.size, 4, none⟩ = some (.int .i64 0) := blk_cell BK.out 4
 have z6 := blk_frozen BK.out
 go_wp2
 refine bodyPost_ret (results_ct rfl _ _ w.heap.size 61 #[.slice A3 ri.length c3, .int .u64 r1, .int .u64 r2, .int .i64 r3, .int .i64 r4] (0, 0) _ rfl (fin5p _ _ _ _ _ BK.out) Tryd.underlying61 rfl (by kernel_rfl)) rfl ?_
 refine ⟨_, rfl, ?_, bel_grown HB.out (grown5 _ _ _ _ _) (Nat.le_refl _)⟩
 exact Kd.R_lower (Kd.R_mono (Kd.R_grown HR.out (grown5 _ _ _ _ _) (fun k_ hk h => by injection h with h; have := hk.2.1; have := HLT.out; omega)) (fun _ _ => trivial)) (Nat.le_of_lt HLT.out)
theorem rehashNo.calls (A : Option Addr) (c n : Nat) (b e z1 z2 : Int) (A0 : Option Addr) (n0 c0 : Nat) (hv : Value) (hne : n0 ≠ n) (w : World) :
 Calls Tryd.prog 64 #[.agg #[.slice A n c, .int .i64 b, .int .i64 e, .int .u64 z1, .int .u64 z2], .slice A0 n0 c0, hv] w fun ex w' => ∃ t q, ex = .returned (.tuple #[.slice none 0 0, .iface t (.pointer (some q))]) ∧ Below w.heap.size w w' := by
 have c1 : ((n0 : Int) != (n : Int)) = true := bne_iff_ne.mpr (by omega)
 have c2 : (n0 != n) = true := bne_iff_ne.mpr hne
 clear hne
 go_enter Tryd.func64, Tryd.ntmps64
 go_wp2_with (fail)
 have BK := Aside0.mk (blk_new w (Obj.cells #[Value.slice A n c, Value.int IntKind.i64 b, Value.int IntKind.i64 e, Value.int IntKind.u64 z1, Value.int IntKind.u64 z2] 112))
 go_quiet (fail)
 go_wp2_with (fail)
 refine (errNew.calls _ _).mono ?_
 rintro ex w2 ⟨t, q, rfl, hb⟩
 dsimp only
 have HB := Aside0.mk (below_step (pw_below_drewN (below_alloc (Below.refl w.heap.size w) (Obj.cells #[Value.slice A n c, Value.int IntKind.i64 b, Value.int IntKind.i64 e, Value.int IntKind.u64 z1, Value.int IntKind.u64 z2] 112)) nq) hb)
 clear hb
 go_wp2
 go_ret2
 exact ⟨t, q, rfl, HB.out⟩
theorem consHashes_yes (k : Nat) (a0 a1 a2 a3 a4 a5 x1 x2 z1 z2 : Int) (b e n : Nat) (A2 : Option Addr) (c2 : Nat) (l xs : List (List Int)) (f : List Int) (r : List (List Int)) (w : World) (hG : Glob w)
 (hA : ∀ W, Glob W → Calls Tryd.prog 63 #[.int .u64 x1, .int .u64 x2] W fun ex w' => ∃ A c, ex = .returned (.tuple #[.agg #[.slice A n c, .int .i64 (b : Int), .int .i64 (e : Int), .int .u64 z1, .int .u64 z2], .nilIface]) ∧ Below W.heap.size W w')
 (hr2 : Kd.C (Kd.slice 5 (Kd.int .u8)) w A2 l.length l) (hc2 : l.length ≤ c2) (hx : impl_texts.f k l = some xs) (hn : xs.length = n) (hb63 : b < 4611686018427387904) (he63 : e < 4611686018427387904) (hbe : b < e → e ≤ n)
 (hf : b < e → upB_ (impl_toy_HashChildren.f k a0 a1 a2 a3 a4 a5) ((xs.take e).drop (b + 1)) (xs.getD b []) = some f) (ho : impl_texts.f k (rehL b e xs f) = some r) :
 Calls Tryd.prog 26 #[toyV a0 a1 a2 a3 a4 a5, .int .u64 x1, .int .u64 x2, .slice A2 l.length c2] w fun ex w' => ∃ v : Value, ex = .returned (.tuple #[v, .bool true]) ∧ Kd.S (Kd.slice 5 (Kd.int .u8)) 27 w' w.heap.size (fun _ => True) v r ∧ Below w.heap.size w w' := by
 have HA := Aside0.mk hA
 have HGL := Aside0.mk hG
 have HR2 := Aside0.mk hr2
 have HC2 := Aside0.mk hc2
 have HX := Aside0.mk hx
 have HN := Aside0.mk hn
 have HB1_ := Aside0.mk hb63
 have HB2_ := Aside0.mk he63
 have HBE := Aside0.mk hbe
 have HF := Aside0.mk hf
 have HO := Aside0.mk ho
 clear hA hG hr2 hc2 hx hn hb63 he63 hbe hf ho
 go_enter Tryd.func26, Tryd.ntmps26
 go_wp2_with (fail)
 have BK := Aside0.mk (blk_new w (Obj.cells #[Value.int .i64 a0, Value.int .i64 a1, Value.int .i64 a2, Value.int .u64 a3, Value.int .u64 a4, Value.int .u64 a5] 24))
 have HB := Aside0.mk (below_alloc (Below.refl w.heap.size w) (Obj.cells #[Value.int .i64 a0, Value.int .i64 a1, Value.int .i64 a2, Value.int .u64 a3, Value.int .u64 a4, Value.int .u64 a5] 24))
 generalize w.alloc (Obj.cells #[Value.int .i64 a0, Value.int .i64 a1, Value.int .i64 a2, Value.int .u64 a3, Value.int .u64 a4, Value.int .u64 a5] 24) = W at BK HB ⊢
 refine (HA.out W (HGL.out.below HB.out)).mono ?_
 rintro ex w1 ⟨A, c, rfl, hb⟩
 dsimp only
 replace BK := Aside0.mk (blk_below BK.out hb)
 replace HB := Aside0.mk (below_step HB.out hb)
 clear hb
 go_wp2_with (fail)
 have BQ := Aside0.mk (blk_new w1 (Obj.cells #[Value.slice A n c, Value.int .i64 (b : Int), Value.int .i64 (e : Int), Value.int .u64 z1, Value.int .u64 z2] 112))
 replace BK := Aside0.mk (blk_alloc BK.out (Obj.cells #[Value.slice A n c, Value.int .i64 (b : Int), Value.int .i64 (e : Int), Value.int .u64 z1, Value.int .u64 z2] 112))
 replace HB := Aside0.mk (below_alloc HB.out (Obj.cells #[Value.slice A n c, Value.int .i64 (b : Int), Value.int .i64 (e : Int), Value.int .u64 z1, Value.int .u64 z2] 112))
 generalize w1.alloc (Obj.cells #[Value.slice A n c, Value.int .i64 (b : Int), Value.int .i64 (e : Int), Value.int .u64 z1, Value.int .u64 z2] 112) = W2 at BQ BK HB ⊢
 generalize w1.heap.size = q at BQ ⊢
 have hmf : ∀ (fn : Fn) (first cap : Array Value) (w : World), (Instr.makeFunc fn first cap).run Tryd.prog w = .ok (.func fn first cap) w := fun _ _ _ _ => rfl
 have y0 : W2.cell? ⟨w.heap.size, 0, none⟩ = some (.int .i64 a0) := blk_cell BK.out 0
 have y1 : W2.cell? ⟨w.heap.size, 1, none⟩ = some (.int .i64 a1) := blk_cell BK.out 1
 have y2 : W2.cell? ⟨w.heap.size, 2, none⟩ = some (.int .i64 a2) := blk_cell BK.out 2
 have y3 : W2.cell? ⟨w.heap.size, 3, none⟩ = some (.int .u64 a3) := blk_cell BK.out 3
 have y4 : W2.cell? ⟨w.heap.size, 4, none⟩ = some (.int .u64 a4) := blk_cell BK.out 4
 have y5 : W2.cell? ⟨w.heap.size, 5, none⟩ = some (.int .u64 a5) := blk_cell BK.out 5
 have t0 : W2.cell? ⟨q, 0, none⟩ = some (.slice A n c) := blk_cell BQ.out 0
 have t1 : W2.cell? ⟨q, 1, none⟩ = some (.int .i64 (b : Int)) := blk_cell BQ.out 1
 have t2 : W2.cell? ⟨q, 2, none⟩ = some (.int .i64 (e : Int)) := blk_cell BQ.out 2
 have t3 : W2.cell? ⟨q, 3, none⟩ = some (.int .u64 z1) := blk_cell BQ.out 3
 have t4 : W2.cell? ⟨q, 4, none⟩ = some (.int .u64 z2) := blk_cell BQ.out 4
 have HBn := Aside0.mk (Below.refl W2.heap.size W2)
 go_region_law (first
  | (
   go_simp; go_at_call 45
   have HW := Aside0.mk (show Below W2.heap.size W2 W2.drew from below_drew (Below.refl _ _))
   refine (impl_texts.calls k A2 c2 l xs _ ?s1 ?s2 HX.out).mono ?_
   (case s1 => exact Kd.C_below HR2.out (HB.out.trans (HW.out.mono HB.out.size)))
   (case s2 => exact HC2.out)
   rintro ex w3 ⟨v3, rfl, hS3, hb⟩
   have hb3 : Below W2.heap.size W2 w3 := Below.trans HW.out (hb.mono HW.out.size)
   have HV3 := Aside0.mk (Kd.S_R hS3)
   have HBn3 := Aside0.mk hb3
   have BK3 := Aside0.mk (blk_below BK.out hb3)
   have BQ3 := Aside0.mk (blk_below BQ.out hb3)
   have u0 : w3.cell? ⟨w.heap.size, 0, none⟩ = some (.int .i64 a0) := blk_cell BK3.out 0
   have u1 : w3.cell? ⟨w.heap.size, 1, none⟩ = some (.int .i64 a1) := blk_cell BK3.out 1
   have u2 : w3.cell? ⟨w.heap.size, 2, none⟩ = some (.int .i64 a2) := blk_cell BK3.out 2
   have u3 : w3.cell? ⟨w.heap.size, 3, none⟩ = some (.int .u64 a3) := blk_cell BK3.out 3
   have u4 : w3.cell? ⟨w.heap.size, 4, none⟩ = some (.int .u64 a4) := blk_cell BK3.out 4
   have u5 : w3.cell? ⟨w.heap.size, 5, none⟩ = some (.int .u64 a5) := blk_cell BK3.out 5
   have s0 : w3.cell? ⟨q, 0, none⟩ = some (.slice A n c) := blk_cell BQ3.out 0
   have s1 : w3.cell? ⟨q, 1, none⟩ = some (.int .i64 (b : Int)) := blk_cell BQ3.out 1
   have s2 : w3.cell? ⟨q, 2, none⟩ = some (.int .i64 (e : Int)) := blk_cell BQ3.out 2
   have s3 : w3.cell? ⟨q, 3, none⟩ = some (.int .u64 z1) := blk_cell BQ3.out 3
   have s4 : w3.cell? ⟨q, 4, none⟩ = some (.int .u64 z2) := blk_cell BQ3.out 4
   have HSW := Aside0.mk HW.out.size
   clear hS3 hb hb3)
  | (
   go_simp; go_at_call 64
   refine (rehash.calls k a0 a1 a2 a3 a4 a5 A c n b e z1 z2 v3 xs f W2.heap.size _ ?b1 ?b2 HN.out HB1_.out HB2_.out HBE.out HF.out).mono ?_
   (case b1 => exact HBn3.out.size)
   (case b2 => exact Kd.R_lower (by repeat (first | exact HV3.out | apply Kd.R_drewN | apply Kd.R_drew)) HSW.out)
   rintro ex w5 ⟨A5, c5, rfl, hl5, hC5, hb5⟩
   have HL5 := Aside0.mk hl5
   have HC5 := Aside0.mk hC5
   have HB5 := Aside0.mk (Below.trans HBn3.out hb5)
   clear hl5 hC5 hb5))
 all_goals
  clear y0 y1 y2 y3 y4 y5 t0 t1 t2 t3 t4 u0 u1 u2 u3 u4 u5 s0 s1 s2 s3 s4 BK BQ BK3 BQ3 HV3 HBn3 HSW HBn HW HF HN HX HR2 HC2 HBE HB1_ HB2_ HA hmf
  go_step
  simp [Act.put]
  go_step
  go_wp2_with (fail)
  go_region_law (first
   | (
    go_simp; go_at_call 45
    refine (impl_texts.calls k A5 c5 (rehL b e xs f) r _ ?s1 ?s2 HO.out).mono ?_
    (case s1 => exact Kd.C_drew HC5.out)
    (case s2 => exact HL5.out)
    rintro ex w6 ⟨v6, rfl, hS6, hb6⟩
    have HS6 := Aside0.mk (Kd.S_lower hS6 (Nat.le_trans HB.out.size HB5.out.size))
    have HB6 := Aside0.mk ((HB.out.trans (HB5.out.mono HB.out.size)).trans ((below_drew (Below.refl _ _)).trans hb6 |>.mono (Nat.le_trans HB.out.size HB5.out.size)))
    clear hS6 hb6))
  all_goals
   go_step
   simp [Act.put]
   go_step
   go_wp2
   go_ret2
   exact ⟨_, rfl, HS6.out, HB6.out⟩
theorem consHashes_len (k : Nat) (a0 a1 a2 a3 a4 a5 x1 x2 z1 z2 : Int) (b e n : Nat) (A2 : Option Addr) (c2 : Nat) (l xs r : List (List Int)) (w : World) (hG : Glob w)
 (hA : ∀ W, Glob W → Calls Tryd.prog 63 #[.int .u64 x1, .int .u64 x2] W fun ex w' => ∃ A c, ex = .returned (.tuple #[.agg #[.slice A n c, .int .i64 (b : Int), .int .i64 (e : Int), .int .u64 z1, .int .u64 z2], .nilIface]) ∧ Below W.heap.size W w')
 (hr2 : Kd.C (Kd.slice 5 (Kd.int .u8)) w A2 l.length l) (hc2 : l.length ≤ c2) (hx : impl_texts.f k l = some xs) (hn : xs.length ≠ n) (ho : impl_texts.f k [] = some r) :
 Calls Tryd.prog 26 #[toyV a0 a1 a2 a3 a4 a5, .int .u64 x1, .int .u64 x2, .slice A2 l.length c2] w fun ex w' => ∃ v : Value, ex = .returned (.tuple #[v, .bool false]) ∧ Kd.S (Kd.slice 5 (Kd.int .u8)) 27 w' w.heap.size (fun _ => True) v r ∧ Below w.heap.size w w' := by
 have HA := Aside0.mk hA
 have HGL := Aside0.mk hG
 have HR2 := Aside0.mk hr2
 have HC2 := Aside0.mk hc2
 have HX := Aside0.mk hx
 have HN := Aside0.mk hn
 have HO := Aside0.mk ho
 clear hA hG hr2 hc2 hx hn ho
 go_enter Tryd.func26, Tryd.ntmps26
 go_wp2_with (fail)
 have BK := Aside0.mk (blk_new w (Obj.cells #[Value.int .i64 a0, Value.int .i64 a1, Value.int .i64 a2, Value.int .u64 a3, Value.int .u64 a4, Value.int .u64 a5] 24))
 have HB := Aside0.mk (below_alloc (Below.refl w.heap.size w) (Obj.cells #[Value.int .i64 a0, Value.int .i64 a1, Value.int .i64 a2, Value.int .u64 a3, Value.int .u64 a4, Value.int .u64 a5] 24))
 generalize w.alloc (Obj.cells #[Value.int .i64 a0, Value.int .i64 a1, Value.int .i64 a2, Value.int .u64 a3, Value.int .u64 a4, Value.int .u64 a5] 24) = W at BK HB ⊢
 refine (HA.out W (HGL.out.below HB.out)).mono ?_
 rintro ex w1 ⟨A, c, rfl, hb⟩
 dsimp only
 replace BK := Aside0.mk (blk_below BK.out hb)
 replace HB := Aside0.mk (below_step HB.out hb)
 clear hb
 go_wp2_with (fail)
 have BQ := Aside0.mk (blk_new w1 (Obj.cells #[Value.slice A n c, Value.int .i64 (b : Int), Value.int .i64 (e : Int), Value.int .u64 z1, Value.int .u64 z2] 112))
 replace BK := Aside0.mk (blk_alloc BK.out (Obj.cells #[Value.slice A n c, Value.int .i64 (b : Int), Value.int .i64 (e : Int), Value.int .u64 z1, Value.int .u64 z2] 112))
 replace HB := Aside0.mk (below_alloc HB.out (Obj.cells #[Value.slice A n c, Value.int .i64 (b : Int), Value.int .i64 (e : Int), Value.int .u64 z1, Value.int .u64 z2] 112))
 generalize w1.alloc (Obj.cells #[Value.slice A n c, Value.int .i64 (b : Int), Value.int .i64 (e : Int), Value.int .u64 z1, Value.int .u64 z2] 112) = W2 at BQ BK HB ⊢
 generalize w1.heap.size = q at BQ ⊢
 have hmf : ∀ (fn : Fn) (first cap : Array Value) (w : World), (Instr.makeFunc fn first cap).run Tryd.prog w = .ok (.func fn first cap) w := fun _ _ _ _ => rfl
 have y0 : W2.cell? ⟨w.heap.size, 0, none⟩ = some (.int .i64 a0) := blk_cell BK.out 0
 have y1 : W2.cell? ⟨w.heap.size, 1, none⟩ = some (.int .i64 a1) := blk_cell BK.out 1
 have y2 : W2.cell? ⟨w.heap.size, 2, none⟩ = some (.int .i64 a2) := blk_cell BK.out 2
 have y3 : W2.cell? ⟨w.heap.size, 3, none⟩ = some (.int .u64 a3) := blk_cell BK.out 3
 have y4 : W2.cell? ⟨w.heap.size, 4, none⟩ = some (.int .u64 a4) := blk_cell BK.out 4
 have y5 : W2.cell? ⟨w.heap.size, 5, none⟩ = some (.int .u64 a5) := blk_cell BK.out 5
 have t0 : W2.cell? ⟨q, 0, none⟩ = some (.slice A n c) := blk_cell BQ.out 0
 have t1 : W2.cell? ⟨q, 1, none⟩ = some (.int .i64 (b : Int)) := blk_cell BQ.out 1
 have t2 : W2.cell? ⟨q, 2, none⟩ = some (.int .i64 (e : Int)) := blk_cell BQ.out 2
 have t3 : W2.cell? ⟨q, 3, none⟩ = some (.int .u64 z1) := blk_cell BQ.out 3
 have t4 : W2.cell? ⟨q, 4, none⟩ = some (.int .u64 z2) := blk_cell BQ.out 4
 have HBn := Aside0.mk (Below.refl W2.heap.size W2)
 go_region_law (first
  | (
   go_simp; go_at_call 45
   have HW := Aside0.mk (show Below W2.heap.size W2 W2.drew from below_drew (Below.refl _ _))
   refine (impl_texts.calls k A2 c2 l xs _ ?s1 ?s2 HX.out).mono ?_
   (case s1 => exact Kd.C_below HR2.out (HB.out.trans (HW.out.mono HB.out.size)))
   (case s2 => exact HC2.out)
   rintro ex w3 ⟨v3, rfl, hS3, hb⟩
   have hb3 : Below W2.heap.size W2 w3 := Below.trans HW.out (hb.mono HW.out.size)
   have HV3 := Aside0.mk (Kd.S_R hS3)
   obtain ⟨A3, c3, rfl⟩ := Kd.R_slice HV3.out
   have HBn3 := Aside0.mk hb3
   have BK3 := Aside0.mk (blk_below BK.out hb3)
   have BQ3 := Aside0.mk (blk_below BQ.out hb3)
   have u0 : w3.cell? ⟨w.heap.size, 0, none⟩ = some (.int .i64 a0) := blk_cell BK3.out 0
   have u1 : w3.cell? ⟨w.heap.size, 1, none⟩ = some (.int .i64 a1) := blk_cell BK3.out 1
   have u2 : w3.cell? ⟨w.heap.size, 2, none⟩ = some (.int .i64 a2) := blk_cell BK3.out 2
   have u3 : w3.cell? ⟨w.heap.size, 3, none⟩ = some (.int .u64 a3) := blk_cell BK3.out 3
   have u4 : w3.cell? ⟨w.heap.size, 4, none⟩ = some (.int .u64 a4) := blk_cell BK3.out 4
   have u5 : w3.cell? ⟨w.heap.size, 5, none⟩ = some (.int .u64 a5) := blk_cell BK3.out 5
   have s0 : w3.cell? ⟨q, 0, none⟩ = some (.slice A n c) := blk_cell BQ3.out 0
   have s1 : w3.cell? ⟨q, 1, none⟩ = some (.int .i64 (b : Int)) := blk_cell BQ3.out 1
   have s2 : w3.cell? ⟨q, 2, none⟩ = some (.int .i64 (e : Int)) := blk_cell BQ3.out 2
   have s3 : w3.cell? ⟨q, 3, none⟩ = some (.int .u64 z1) := blk_cell BQ3.out 3
   have s4 : w3.cell? ⟨q, 4, none⟩ = some (.int .u64 z2) := blk_cell BQ3.out 4
   have HSW := Aside0.mk HW.out.size
   clear hS3 hb hb3)
  | (
   go_simp; go_at_call 64
   refine (rehashNo.calls A c n (b : Int) (e : Int) z1 z2 A3 xs.length c3 _ HN.out _).mono ?_
   rintro ex w5 ⟨te, qe, rfl, hb5⟩
   have HB5 := Aside0.mk (Below.trans HBn3.out ((Below.mono (by repeat (first | exact Below.refl _ _ | apply Below.drew | apply pw_below_drewN)) HBn3.out.size).trans (hb5.mono HBn3.out.size)))
   clear hb5))
 all_goals
  clear y0 y1 y2 y3 y4 y5 t0 t1 t2 t3 t4 u0 u1 u2 u3 u4 u5 s0 s1 s2 s3 s4 BK BQ BK3 BQ3 HV3 HBn3 HSW HBn HW HN HX HR2 HC2 HA hmf
  go_step
  simp [Act.put]
  go_step
  go_wp2_with (fail)
  go_region_law (first
   | (
    go_simp; go_at_call 45
    refine (impl_texts.calls k none 0 [] r _ ?s1 ?s2 HO.out).mono ?_
    (case s1 => exact Kd.C_nil _ _)
    (case s2 => exact Nat.le_refl _)
    rintro ex w6 ⟨v6, rfl, hS6, hb6⟩
    have HS6 := Aside0.mk (Kd.S_lower hS6 (Nat.le_trans HB.out.size HB5.out.size))
    have HB6 := Aside0.mk ((HB.out.trans (HB5.out.mono HB.out.size)).trans ((below_drew (Below.refl _ _)).trans hb6 |>.mono (Nat.le_trans HB.out.size HB5.out.size)))
    clear hS6 hb6))
  all_goals
   go_step
   simp [Act.put]
   go_step
   go_wp2
   go_ret2
   exact ⟨_, rfl, HS6.out, HB6.out⟩
theorem consHashes_no (a0 a1 a2 a3 a4 a5 x1 x2 : Int) (v : Value) (w : World)
 (hA : ∀ W, Calls Tryd.prog 63 #[.int .u64 x1, .int .u64 x2] W fun ex w' => ∃ t a, ex = .returned (.tuple #[.agg #[.slice none 0 0, .int .i64 0, .int .i64 0, .int .u64 0, .int .u64 0], .iface t (.pointer (some a))]) ∧ Below W.heap.size W w') :
 Calls Tryd.prog 26 #[toyV a0 a1 a2 a3 a4 a5, .int .u64 x1, .int .u64 x2, v] w fun ex w' => ex = .returned (.tuple #[.slice none 0 0, .bool false]) ∧ Below w.heap.size w w' := by
 have HA := Aside0.mk hA
 clear hA
 go_enter Tryd.func26, Tryd.ntmps26
 go_wp2_with (fail)
 have HB := Aside0.mk (below_alloc (Below.refl w.heap.size w) (Obj.cells #[Value.int .i64 a0, Value.int .i64 a1, Value.int .i64 a2, Value.int .u64 a3, Value.int .u64 a4, Value.int .u64 a5] 24))
 generalize w.alloc (Obj.cells #[Value.int .i64 a0, Value.int .i64 a1, Value.int .i64 a2, Value.int .u64 a3, Value.int .u64 a4, Value.int .u64 a5] 24) = W at HB ⊢
 refine (HA.out W).mono ?_
 rintro ex w1 ⟨t, a, rfl, hb⟩
 dsimp only
 replace HB := Aside0.mk (below_step HB.out hb)
 clear hb
 go_wp2
 go_ret2
 exact ⟨rfl, below_alloc HB.out _⟩
def hashF (k : Nat) (a0 a1 a2 a3 a4 a5 : Int) (n b e : Nat) (l : List (List Int)) : Option (List (List Int) × Bool) :=
 (impl_texts.f k l).bind fun xs => if xs.length = n then (if b < e then upB_ (impl_toy_HashChildren.f k a0 a1 a2 a3 a4 a5) ((xs.take e).drop (b + 1)) (xs.getD b []) else some []).bind fun f => (impl_texts.f k (rehL b e xs f)).bind fun r => some (r, true)
  else (impl_texts.f k []).bind fun r => some (r, false)
def conPlan (s n : Nat) : List (Nat × Nat) × Nat × Nat :=
 if s = n ∨ s = 0 then ([], 0, 0) else if s / 2 ^ lev s (2 * s) = 1 then (skIds (s / 2 ^ lev s (2 * s) - 1) (lev s (2 * s)) n, skBegin (s / 2 ^ lev s (2 * s) - 1) (lev s (2 * s)) n, skEnd (s / 2 ^ lev s (2 * s) - 1) (lev s (2 * s)) n)
  else (ndIds (s / 2 ^ lev s (2 * s) - 1) (lev s (2 * s)) n, ndBegin (s / 2 ^ lev s (2 * s) - 1) (lev s (2 * s)) n, ndEnd (s / 2 ^ lev s (2 * s) - 1) (lev s (2 * s)) n)
theorem lev_odd {s : Nat} (h : 0 < s) : s = 2 ^ lev s (2 * s) * (s / 2 ^ lev s (2 * s)) ∧ s / 2 ^ lev s (2 * s) % 2 = 1 := by
 obtain ⟨h1, h2, h3⟩ := lev_spec s (2 * s) (by omega)
 have e : s = 2 ^ lev s (2 * s) * (s / 2 ^ lev s (2 * s)) := by
  have := Nat.div_add_mod s (2 ^ lev s (2 * s)); omega
 refine ⟨e, ?_⟩
 rcases Nat.mod_two_eq_zero_or_one (s / 2 ^ lev s (2 * s)) with h4 | h4
 ·exfalso
  obtain ⟨q, hq⟩ : ∃ q, s / 2 ^ lev s (2 * s) = 2 * q := ⟨s / 2 ^ lev s (2 * s) / 2, by omega⟩
  have e2 : s = 2 ^ (lev s (2 * s) + 1) * q := by
   rw [Nat.pow_succ, Nat.mul_assoc, ← hq]; exact e
  have h5 : s % 2 ^ (lev s (2 * s) + 1) = 0 := by
   have := Nat.mul_mod_right (2 ^ (lev s (2 * s) + 1)) q
   rw [← e2] at this; exact this
  have h6 := h3 h5
  have hq0 : 0 < q := by
   rcases Nat.eq_zero_or_pos q with h | h
   ·rw [h, Nat.mul_zero] at e2; omega
   ·exact h
  have : 2 ^ (lev s (2 * s) + 1) ≤ 2 ^ (lev s (2 * s) + 1) * q := Nat.le_mul_of_pos_right _ hq0
  omega
 ·exact h4
theorem ndS_len (i l n : Nat) : (ndS i l n).length = ndM i l n := by unfold ndS; simp
theorem skIds_len (i l n : Nat) (hl : l ≤ 63) (hi : i < n / 2 ^ l) (hn : n < 18446744073709551616) : skEnd i l n ≤ (skIds i l n).length ∧ skBegin i l n ≤ skEnd i l n ∧ (skIds i l n).length ≤ 400 := by
 have lenR : (Nds 0 (ndE i l n) n).length ≤ 128 := Nds_len 0 _ _ 64 hn
 have lenL : (Nds 0 0 (ndB i l n)).length ≤ 128 := Nds_len 0 _ _ 64 (by have := ndB_lt i l n hi; omega)
 have hm := ndM_le i l n hl hi hn
 unfold skEnd skBegin skIds
 rw [List.length_append, List.length_append, List.length_reverse, List.length_reverse, ndS_len]
 split <;> omega
theorem ndIds_len (i l n : Nat) (hl : l ≤ 63) (hi : i < n / 2 ^ l) (hn : n < 18446744073709551616) : ndEnd i l n ≤ (ndIds i l n).length ∧ ndBegin i l n ≤ ndEnd i l n ∧ (ndIds i l n).length ≤ 400 := by
 have lenR : (Nds 0 (ndE i l n) n).length ≤ 128 := Nds_len 0 _ _ 64 hn
 have lenL : (Nds 0 0 (ndB i l n)).length ≤ 128 := Nds_len 0 _ _ 64 (by have := ndB_lt i l n hi; omega)
 have hm := ndM_le i l n hl hi hn
 unfold ndEnd ndBegin ndIds
 rw [List.length_cons, List.length_append, List.length_append, List.length_reverse, List.length_reverse, ndS_len]
 split <;> omega
theorem odd_pos {M : Nat} (h : M % 2 = 1) : 1 ≤ M := by omega
theorem lev_facts {s n : Nat} (h : 0 < s) (hlt : s < n) (hn : n < 18446744073709551616) : lev s (2 * s) ≤ 63 ∧ s / 2 ^ lev s (2 * s) - 1 < n / 2 ^ lev s (2 * s) := by
 obtain ⟨e, ho⟩ := lev_odd h
 have hp := Nat.two_pow_pos (lev s (2 * s))
 constructor
 ·apply Nat.le_of_not_lt; intro h1
  have h2 := Nat.pow_le_pow_right (n := 2) (by decide) (show 64 ≤ lev s (2 * s) by omega)
  have h3 : 2 ^ lev s (2 * s) ≤ s := Nat.le_trans (Nat.le_mul_of_pos_right _ (odd_pos ho)) (Nat.le_of_eq e.symm)
  have : 2 ^ 64 = 18446744073709551616 := by decide
  omega
 ·have h3 : s / 2 ^ lev s (2 * s) ≤ n / 2 ^ lev s (2 * s) := Nat.div_le_div_right (Nat.le_of_lt hlt)
  have h4 : 1 ≤ s / 2 ^ lev s (2 * s) := odd_pos ho
  exact Nat.lt_of_lt_of_le (Nat.sub_lt h4 Nat.one_pos) h3
theorem conPlan_len (s n : Nat) (hle : s ≤ n) (hn : n < 18446744073709551616) : (conPlan s n).2.2 ≤ (conPlan s n).1.length ∧ (conPlan s n).2.1 ≤ (conPlan s n).2.2 ∧ (conPlan s n).1.length ≤ 400 := by
 unfold conPlan
 by_cases h : s = n ∨ s = 0
 ·rw [if_pos h]; simp
 ·rw [if_neg h]
  obtain ⟨h1, h2⟩ := lev_facts (s := s) (n := n) (by omega) (by omega) hn
  split
  ·exact skIds_len _ _ _ h1 h2 hn
  ·exact ndIds_len _ _ _ h1 h2 hn
def impl_ConsistencyHashes.f (k : Nat) (a0 a1 a2 a3 a4 a5 x1 x2 : Int) (l : List (List Int)) : Option (List (List Int) × Bool) :=
 if x2 < x1 then some ([], false) else if 0 ≤ x1 ∧ x2 < 18446744073709551616 then hashF k a0 a1 a2 a3 a4 a5 (conPlan x1.toNat x2.toNat).1.length (conPlan x1.toNat x2.toNat).2.1 (conPlan x1.toNat x2.toNat).2.2 l else none
theorem hashF_cases {k : Nat} {a0 a1 a2 a3 a4 a5 : Int} {n b e : Nat} {l r : List (List Int)} {z : Bool} (h : hashF k a0 a1 a2 a3 a4 a5 n b e l = some (r, z)) :
 ∃ xs, impl_texts.f k l = some xs ∧ ((xs.length = n ∧ z = true ∧ ∃ f, (b < e → upB_ (impl_toy_HashChildren.f k a0 a1 a2 a3 a4 a5) ((xs.take e).drop (b + 1)) (xs.getD b []) = some f) ∧ impl_texts.f k (rehL b e xs f) = some r) ∨ (xs.length ≠ n ∧ z = false ∧ impl_texts.f k [] = some r)) := by
 unfold hashF at h
 obtain ⟨xs, hx, h⟩ := Option.bind_eq_some_iff.1 h
 refine ⟨xs, hx, ?_⟩
 by_cases hn : xs.length = n
 ·rw [if_pos hn] at h
  obtain ⟨f, hf, h⟩ := Option.bind_eq_some_iff.1 h
  obtain ⟨r', hr, h⟩ := Option.bind_eq_some_iff.1 h
  simp only [Option.some.injEq, Prod.mk.injEq] at h
  obtain ⟨rfl, rfl⟩ := h
  exact .inl ⟨hn, rfl, f, fun hb => by rw [if_pos hb] at hf; exact hf, hr⟩
 ·rw [if_neg hn] at h
  obtain ⟨r', hr, h⟩ := Option.bind_eq_some_iff.1 h
  simp only [Option.some.injEq, Prod.mk.injEq] at h
  obtain ⟨rfl, rfl⟩ := h
  exact .inr ⟨hn, rfl, hr⟩
theorem impl_ConsistencyHashes.calls (k : Nat) (a0 a1 a2 a3 a4 a5 x1 x2 : Int) (A : Option Addr) (c : Nat) (l : List (List Int)) (r : List (List Int)) (z : Bool) (w : World) (hG : Glob w) (hr : Kd.C (Kd.slice 5 (Kd.int .u8)) w A l.length l) (hc : l.length ≤ c) (h : impl_ConsistencyHashes.f k a0 a1 a2 a3 a4 a5 x1 x2 l = some (r, z)) :
 Calls Tryd.prog 26 #[.agg #[.int .i64 a0, .int .i64 a1, .int .i64 a2, .int .u64 a3, .int .u64 a4, .int .u64 a5], .int .u64 x1, .int .u64 x2, .slice A l.length c] w fun ex w' => ∃ v : Value, ex = .returned (.tuple #[v, .bool z]) ∧ Kd.S (Kd.slice 5 (Kd.int .u8)) 27 w' w.heap.size (fun _ => True) v r ∧ Below w.heap.size w w' := by
 unfold impl_ConsistencyHashes.f at h
 by_cases h1 : x2 < x1
 ·rw [if_pos h1] at h
  simp only [Option.some.injEq, Prod.mk.injEq] at h
  obtain ⟨rfl, rfl⟩ := h
  refine (consHashes_no a0 a1 a2 a3 a4 a5 x1 x2 (.slice A l.length c) w (fun W => proofConsistencyNo.calls x1 x2 h1 W)).mono ?_
  rintro ex w' ⟨rfl, hb⟩
  exact ⟨_, rfl, Kd.S_nil _ _ _ _ _, hb⟩
 ·rw [if_neg h1] at h
  by_cases h2 : 0 ≤ x1 ∧ x2 < 18446744073709551616
  case neg => rw [if_neg h2] at h; cases h
  rw [if_pos h2] at h
  obtain ⟨s, rfl⟩ : ∃ i : Nat, x1 = (i : Int) := ⟨x1.toNat, by omega⟩
  obtain ⟨n, rfl⟩ : ∃ n : Nat, x2 = (n : Int) := ⟨x2.toNat, by omega⟩
  rw [Int.toNat_natCast, Int.toNat_natCast] at h
  have hsn : s ≤ n := by omega
  have hn : n < 18446744073709551616 := by omega
  obtain ⟨e1, e2, e3⟩ := conPlan_len s n hsn hn
  have hA : ∃ z1 z2 : Int, ∀ W, Glob W → Calls Tryd.prog 63 #[.int .u64 (s : Int), .int .u64 (n : Int)] W fun ex w' => ∃ A c, ex = .returned (.tuple #[.agg #[.slice A (conPlan s n).1.length c, .int .i64 ((conPlan s n).2.1 : Int), .int .i64 ((conPlan s n).2.2 : Int), .int .u64 z1, .int .u64 z2], .nilIface]) ∧ Below W.heap.size W w' := by
   unfold conPlan
   by_cases hz : s = n ∨ s = 0
   ·rw [if_pos hz]
    refine ⟨0, 0, fun W hW => ?_⟩
    refine (proofConsistencyNil.calls (s : Int) (n : Int) (by omega) (by omega) W).mono ?_
    rintro ex w' ⟨v, rfl, hQ, hb⟩
    obtain ⟨A', c', rfl, _⟩ := Kd.Q_slice hQ
    exact ⟨A', c', rfl, hb⟩
   ·rw [if_neg hz]
    obtain ⟨o1, o2⟩ := lev_odd (s := s) (by omega)
    refine ⟨((ndEph (s / 2 ^ lev s (2 * s) - 1) (lev s (2 * s)) n).1 : Int), ((ndEph (s / 2 ^ lev s (2 * s) - 1) (lev s (2 * s)) n).2 : Int), fun W hW => ?_⟩
    refine (proofConsistency.calls (lev s (2 * s)) (s / 2 ^ lev s (2 * s)) s n o2 o1 (by omega) hn W hW).mono ?_
    rintro ex w' ⟨v, rfl, hQ, hb⟩
    obtain ⟨A', c', rfl, _⟩ := Kd.Q_slice hQ
    refine ⟨A', c', ?_, hb⟩
    split <;> rw [List.length_map]
  obtain ⟨z1, z2, hA⟩ := hA
  obtain ⟨xs, hx, ⟨g1, rfl, f, g2, g3⟩ | ⟨g1, rfl, g2⟩⟩ := hashF_cases h
  ·exact consHashes_yes k a0 a1 a2 a3 a4 a5 (s : Int) (n : Int) z1 z2 (conPlan s n).2.1 (conPlan s n).2.2 (conPlan s n).1.length A c l xs f r w hG hA hr hc hx g1 (by omega) (by omega) (fun _ => e1) g2 g3
  ·exact consHashes_len k a0 a1 a2 a3 a4 a5 (s : Int) (n : Int) z1 z2 (conPlan s n).2.1 (conPlan s n).2.2 (conPlan s n).1.length A c l xs r w hG hA hr hc hx g1 g2
theorem conMade.calls (s n : Nat) (h0 : 0 < s) (hle : s ≤ n) (hn : n < 18446744073709551616) (w : World) (hG : Glob w) :
 ∃ e1 e2 : Int, Calls Tryd.prog 79 #[.int .u64 (s : Int), .int .u64 (n : Int)] w fun ex w' => ∃ v : Value, ex = .returned (.tuple #[.agg #[v, .int .u64 e1, .int .u64 e2, .int .i64 ((conPlan s n).2.1 : Int), .int .i64 ((conPlan s n).2.2 : Int)], .bool true]) ∧ Kd.R k49 49 w' w.heap.size (fun _ => True) v ((conPlan s n).1.map inode) ∧ Below w.heap.size w w' := by
 have hl := (conPlan_len s n hle hn).2.2
 by_cases he : s = n
 ·refine ⟨0, 0, ?_⟩
  have hp : conPlan s n = ([], 0, 0) := by unfold conPlan; rw [if_pos (.inl he)]
  rw [hp]
  exact implCons_yes (s : Int) (n : Int) 0 0 0 0 [] [] 1 w hG (fun W hW => proofConsistencyNil.calls (s : Int) (n : Int) (by omega) (.inl (by omega)) W) (fromProof_eq [] 0 0 0 0 (by simp))
 ·obtain ⟨o1, o2⟩ := lev_odd h0
  refine ⟨((ndEph (s / 2 ^ lev s (2 * s) - 1) (lev s (2 * s)) n).1 : Int), ((ndEph (s / 2 ^ lev s (2 * s) - 1) (lev s (2 * s)) n).2 : Int), ?_⟩
  have hc := fun W hW => proofConsistency.calls (lev s (2 * s)) (s / 2 ^ lev s (2 * s)) s n o2 o1 (by omega) hn W hW
  have hp : conPlan s n = ((if s / 2 ^ lev s (2 * s) = 1 then skIds (s / 2 ^ lev s (2 * s) - 1) (lev s (2 * s)) n else ndIds (s / 2 ^ lev s (2 * s) - 1) (lev s (2 * s)) n), (if s / 2 ^ lev s (2 * s) = 1 then skBegin (s / 2 ^ lev s (2 * s) - 1) (lev s (2 * s)) n else ndBegin (s / 2 ^ lev s (2 * s) - 1) (lev s (2 * s)) n), (if s / 2 ^ lev s (2 * s) = 1 then skEnd (s / 2 ^ lev s (2 * s) - 1) (lev s (2 * s)) n else ndEnd (s / 2 ^ lev s (2 * s) - 1) (lev s (2 * s)) n)) := by
   unfold conPlan
   rw [if_neg (by omega)]
   split <;> rfl
  rw [hp] at hl ⊢
  dsimp only at hl ⊢
  exact implCons_yes (s : Int) (n : Int) _ _ _ _ _ _ _ w hG hc (fromProof_eq _ _ _ _ _ (by omega))
end Go.Proofs.YtielnphmcaecdaaDoor.PAll
