-- Written by a program of this session (wip/tools)
import Derived.Test.YtielnphmcaecdaaDoorQCHExtInc
import Derived.Test.YtielnphmcaecdaaDoorQCHExtTz
import Derived.Test.YtielnphmcaecdaaDoorQCHRanges
namespace Go.Proofs.YtielnphmcaecdaaDoor.PAll
open Go.IntWalk Go.RowKit Go.Proofs.YtielnphmcaecdaaDoor.Num Go.Proofs.YtielnphmcaecdaaDoor.Mth Go.Proofs.YtielnphmcaecdaaDoorW.PrintWords Go.Proofs.YtielnphmcaecdaaDoorW.PrintLast Go.Proofs.YtielnphmcaecdaaDoorW.PrintMore
set_option linter.unusedVariables false
def skIds (i l n : Nat) : List (Nat × Nat) := ndS i l n ++ (Nds 0 (ndE i l n) n).reverse ++ (Nds 0 0 (ndB i l n)).reverse
def skBegin (i l n : Nat) : Nat := if (Nds 0 (ndE i l n) n).length = 0 then 0 else ndM i l n
def skEnd (i l n : Nat) : Nat := if (Nds 0 (ndE i l n) n).length = 0 then 0 else ndM i l n + (Nds 0 (ndE i l n) n).length
theorem skip_nd (i l n : Nat) (hl : l ≤ 63) (hi : i < n / 2 ^ l) (hn : n < 18446744073709551616) (a b : Int) :
    proof_Nodes_skipFirst.f ((ndIds i l n).map cnode) (ndBegin i l n : Int) (ndEnd i l n : Int) a b = some ((skIds i l n).map cnode, (skBegin i l n : Int), (skEnd i l n : Int), a, b) := by
  have lenR : (Nds 0 (ndE i l n) n).length ≤ 128 := Nds_len 0 _ _ 64 hn
  have hm := ndM_le i l n hl hi hn
  have e : ((ndIds i l n).map cnode).drop (1 : Int).toNat = (skIds i l n).map cnode := by
    rw [show (1 : Int).toNat = 1 from rfl]; unfold ndIds skIds; rw [List.map_cons]; rfl
  have hl : 1 ≤ (((ndIds i l n).map cnode).length : Int) := by rw [List.length_map]; unfold ndIds; rw [List.length_cons]; omega
  unfold proof_Nodes_skipFirst.f
  rw [if_pos hl, e]
  show (if (ndBegin i l n : Int) < (ndEnd i l n : Int) then _ else _) = _
  unfold ndBegin ndEnd skBegin skEnd
  by_cases h : (Nds 0 (ndE i l n) n).length = 0
  · rw [if_pos h, if_pos h, if_pos h, if_pos h, if_neg (by omega)]
  · rw [if_neg h, if_neg h, if_neg h, if_neg h, if_pos (by omega)]
    rw [show wrap64 (((1 + ndM i l n : Nat) : Int) - 1) = (ndM i l n : Int) by unfold wrap64; omega, show wrap64 (((1 + ndM i l n + (Nds 0 (ndE i l n) n).length : Nat) : Int) - 1) = ((ndM i l n + (Nds 0 (ndE i l n) n).length : Nat) : Int) by unfold wrap64; omega]
set_option maxHeartbeats 8000000 in
set_option maxRecDepth 100000 in
theorem proofConsistency.calls (l M s n : Nat) (hM : M % 2 = 1) (hs : s = 2 ^ l * M) (hlt : s < n) (hn : n < 18446744073709551616) (w : World) (hG : Glob w) :
    Calls Tryd.prog 63 #[.int .u64 (s : Int), .int .u64 (n : Int)] w fun ex w' => ∃ v : Value, ex = .returned (.tuple #[.agg #[v, .int .i64 ((if M = 1 then skBegin (M - 1) l n else ndBegin (M - 1) l n : Nat) : Int), .int .i64 ((if M = 1 then skEnd (M - 1) l n else ndEnd (M - 1) l n : Nat) : Int), .int .u64 ((ndEph (M - 1) l n).1 : Int), .int .u64 ((ndEph (M - 1) l n).2 : Int)], .nilIface]) ∧ Kd.Q k99 99 w' w.heap.size (fun k_ => w.heap.size ≤ k_) v ((if M = 1 then skIds (M - 1) l n else ndIds (M - 1) l n).map cnode) ∧ Below w.heap.size w w' := by
  have hp := Nat.two_pow_pos l
  have hMp : 0 < M := by omega
  have hs0 : 0 < s := by rw [hs]; exact Nat.mul_pos hp hMp
  have hl : l ≤ 63 := by
    apply Nat.le_of_not_lt; intro h
    have h1 := Nat.pow_le_pow_right (n := 2) (by decide) (show 64 ≤ l by omega)
    have h2 : 2 ^ l ≤ 2 ^ l * M := Nat.le_mul_of_pos_right _ hMp
    have : 2 ^ 64 = 18446744073709551616 := by decide
    omega
  have hdiv : (s - 1) / 2 ^ l = M - 1 := by
    rw [hs]
    apply Nat.div_eq_of_lt_le
    · have : 2 ^ l * M = (M - 1) * 2 ^ l + 2 ^ l := by rw [Nat.mul_comm, ← Nat.succ_mul]; congr 1; omega
      omega
    · have : 2 ^ l * M = (M - 1 + 1) * 2 ^ l := by rw [Nat.mul_comm]; congr 1; omega
      have : 0 < 2 ^ l * M := Nat.mul_pos hp hMp
      show 2 ^ l * M - 1 < (M - 1).succ * 2 ^ l
      rw [show (M - 1).succ = M - 1 + 1 from rfl]
      omega
  have hi : M - 1 < n / 2 ^ l := by
    have : M ≤ n / 2 ^ l := (Nat.le_div_iff_mul_le hp).2 (by rw [Nat.mul_comm, ← hs]; omega)
    omega
  have htz : bits_TrailingZeros64.f (s : Int) = some (l : Int) := by rw [hs]; exact bits_TrailingZeros64.eq l M hM (by rw [← hs]; omega)
  have hS := skip_nd (M - 1) l n hl hi hn ((ndEph (M - 1) l n).1 : Int) ((ndEph (M - 1) l n).2 : Int)
  have hA := fun W hW => nodesAt.calls (M - 1) l n hl hi hn W hW
  have hidiv : ((s : Int) - 1) / 2 ^ l = ((M - 1 : Nat) : Int) := by
    rw [← hdiv, show ((s : Int) - 1) = ((s - 1 : Nat) : Int) by omega, Int.natCast_ediv, Int.natCast_pow]; rfl
  have i1 : (s : Int) < 18446744073709551616 := by omega
  have i0 : 1 ≤ (s : Int) := by omega
  have l1 : (l : Int) ≤ 63 := by omega
  have l0 : 0 ≤ (l : Int) := by omega
  have b0 : decide ((s : Int) > (n : Int)) = false := decide_eq_false (by omega)
  have b1 : decide ((n : Int) < (s : Int)) = false := decide_eq_false (by omega)
  have b2 : decide (n < s) = false := decide_eq_false (by omega)
  have c0 : ((s : Int) == (n : Int)) = false := beq_eq_false_iff_ne.mpr (by omega)
  have c1 : ((s : Int) == 0) = false := beq_eq_false_iff_ne.mpr (by omega)
  have c2 : (s == n) = false := beq_eq_false_iff_ne.mpr (by omega)
  have c3 : (s == 0) = false := beq_eq_false_iff_ne.mpr (by omega)
  have HTZ := Aside0.mk htz
  have HSK := Aside0.mk hS
  have HNA := Aside0.mk hA
  have HGL := Aside0.mk hG
  have HM := Aside0.mk hM
  have HMP := Aside0.mk hMp
  clear htz hS hA hG hi hdiv hp hs0 hs hM hlt hMp hn hl
  obtain ⟨i, hi⟩ : ∃ i, M - 1 = i := ⟨_, rfl⟩
  rw [hi] at HSK HNA hidiv ⊢
  have HI := Aside0.mk hi
  clear hi
  by_cases h1 : M = 1
  · have hi0 : i = 0 := by have := HI.out; omega
    rw [if_pos h1, if_pos h1, if_pos h1]
    have d1 : ((i : Int) == 0) = true := beq_iff_eq.mpr (by omega)
    have d2 : (i == 0) = true := beq_iff_eq.mpr hi0
    have HI0 := Aside0.mk hi0
    clear h1 hi0
    generalize ((ndEph i l n).1 : Int) = z1 at HSK HNA ⊢
    generalize ((ndEph i l n).2 : Int) = z2 at HSK HNA ⊢
    generalize ((skBegin i l n : Nat) : Int) = zb at HSK ⊢
    generalize ((skEnd i l n : Nat) : Int) = ze at HSK ⊢
    generalize (skIds i l n).map cnode = zl at HSK ⊢
    generalize ((ndBegin i l n : Nat) : Int) = yb at HSK HNA
    generalize ((ndEnd i l n : Nat) : Int) = ye at HSK HNA
    generalize (ndIds i l n).map cnode = yl at HSK HNA
    go_enter Tryd.func63, Tryd.ntmps63
    go_wp2_with (fail)
    have BK := Aside0.mk (blk_new w (Obj.cells #[Value.slice none 0 0, Value.int IntKind.i64 0, Value.int IntKind.i64 0, Value.int IntKind.u64 0, Value.int IntKind.u64 0] 112))
    have HB := Aside0.mk (below_alloc (Below.refl _ w) (Obj.cells #[Value.slice none 0 0, Value.int IntKind.i64 0, Value.int IntKind.i64 0, Value.int IntKind.u64 0, Value.int IntKind.u64 0] 112))
    generalize w.alloc (Obj.cells #[Value.slice none 0 0, Value.int IntKind.i64 0, Value.int IntKind.i64 0, Value.int IntKind.u64 0, Value.int IntKind.u64 0] 112) = W at BK HB ⊢
    refine (bits_TrailingZeros64.calls _ _ W (HGL.out.below HB.out) HTZ.out).mono ?_
    rintro ex w1 ⟨rfl, ⟨d1, rfl⟩⟩
    dsimp only
    go_wp2_with (fail)
    replace BK := Aside0.mk (blk_drewN BK.out d1)
    replace HB := Aside0.mk (pw_below_drewN HB.out d1)
    generalize W.drewN d1 = W1 at BK HB ⊢
    have HS := Aside0.mk (blk_lt BK.out)
    refine (HNA.out W1 (HGL.out.below HB.out)).mono ?_
    rintro ex w2 ⟨v, rfl, hR, hb⟩
    dsimp only
    replace BK := Aside0.mk (blk_below BK.out hb)
    replace HB := Aside0.mk (below_step HB.out hb)
    have HR := Aside0.mk (Kd.R_mono (ok' := fun k_ => w.heap.size < k_) (Kd.R_lower hR (Nat.le_of_lt HS.out)) (fun k_ hk => Nat.lt_of_lt_of_le HS.out hk))
    clear hR hb
    obtain ⟨A, c, rfl⟩ := Kd.R_slice HR.out
    go_wp2_with (fail)
    have BK2 := Aside0.mk (blk_alloc BK.out (Obj.cells #[Value.slice A yl.length c, Value.int IntKind.i64 yb, Value.int IntKind.i64 ye, Value.int IntKind.u64 z1, Value.int IntKind.u64 z2] 112))
    have HB2 := Aside0.mk (below_alloc HB.out (Obj.cells #[Value.slice A yl.length c, Value.int IntKind.i64 yb, Value.int IntKind.i64 ye, Value.int IntKind.u64 z1, Value.int IntKind.u64 z2] 112))
    have HR2 := Aside0.mk (Kd.R_alloc HR.out (Obj.cells #[Value.slice A yl.length c, Value.int IntKind.i64 yb, Value.int IntKind.i64 ye, Value.int IntKind.u64 z1, Value.int IntKind.u64 z2] 112))
    generalize w2.alloc (Obj.cells #[Value.slice A yl.length c, Value.int IntKind.i64 yb, Value.int IntKind.i64 ye, Value.int IntKind.u64 z1, Value.int IntKind.u64 z2] 112) = W2 at BK2 HB2 HR2 ⊢
    refine (proof_Nodes_skipFirst.calls (fun k_ => w.heap.size < k_) _ _ _ _ _ _ _ _ _ _ _ w W2 HB2.out HR2.out HSK.out).mono ?_
    rintro ex w3 ⟨v2, rfl, hQ, hB2, hK⟩
    dsimp only
    replace HS := Aside0.mk (blk_lt BK2.out)
    replace BK := Aside0.mk (blk_kept BK2.out hK (fun h => Nat.lt_irrefl _ h))
    have HQ := Aside0.mk (Kd.Q_mono (ok' := fun k_ => w.heap.size < k_) hQ (fun k_ hk => hk.elim (fun h => h) (fun h => Nat.lt_of_lt_of_le HS.out h)))
    replace HB := Aside0.mk hB2
    clear hQ hB2 hK
    obtain ⟨A2, c2, rfl, hlc⟩ := Kd.Q_slice HQ.out
    clear hlc
    have e60 : World.cell? w3 ⟨w.heap.size, 0, none⟩ = some (.slice none 0 0) := blk_cell BK.out 0
    have e61 : World.cell? w3 ⟨w.heap.size, 1, none⟩ = some (.int .i64 0) := blk_cell BK.out 1
    have e62 : World.cell? w3 ⟨w.heap.size, 2, none⟩ = some (.int .i64 0) := blk_cell BK.out 2
    have e63 : World.cell? w3 ⟨w.heap.size, 3, none⟩ = some (.int .u64 0) := blk_cell BK.out 3
    have e64 : World.cell? w3 ⟨w.heap.size, 4, none⟩ = some (.int .u64 0) := blk_cell BK.out 4
    have z6 := blk_frozen BK.out
    go_wp2
    refine bodyPost_ret (results_ct rfl _ _ w.heap.size 112 #[.slice A2 zl.length c2, .int .i64 zb, .int .i64 ze, .int .u64 z1, .int .u64 z2] (0, 0) _ rfl (fin5 _ _ _ _ _ BK.out) Tryd.underlying112 rfl (by kernel_rfl)) rfl ?_
    refine ⟨.slice A2 zl.length c2, rfl, ?_, bel_grown HB.out (grown5 _ _ _ _ _) (Nat.le_refl _)⟩
    exact Kd.Q_mono (Kd.Q_grown HQ.out (grown5 _ _ _ _ _) (fun k_ hk h => by injection h with h; omega)) (fun k_ hk => Nat.le_of_lt hk)
  · have hi0 : ¬ i = 0 := by have := HI.out; have := HMP.out; omega
    rw [if_neg h1, if_neg h1, if_neg h1]
    have d1 : ((i : Int) == 0) = false := beq_eq_false_iff_ne.mpr (by omega)
    have d2 : (i == 0) = false := beq_eq_false_iff_ne.mpr hi0
    clear h1 hi0
    generalize ((ndEph i l n).1 : Int) = z1 at HSK HNA ⊢
    generalize ((ndEph i l n).2 : Int) = z2 at HSK HNA ⊢
    clear HSK
    generalize ((ndBegin i l n : Nat) : Int) = yb at HNA ⊢
    generalize ((ndEnd i l n : Nat) : Int) = ye at HNA ⊢
    generalize (ndIds i l n).map cnode = yl at HNA ⊢
    go_enter Tryd.func63, Tryd.ntmps63
    go_wp2_with (fail)
    have BK := Aside0.mk (blk_new w (Obj.cells #[Value.slice none 0 0, Value.int IntKind.i64 0, Value.int IntKind.i64 0, Value.int IntKind.u64 0, Value.int IntKind.u64 0] 112))
    have HB := Aside0.mk (below_alloc (Below.refl _ w) (Obj.cells #[Value.slice none 0 0, Value.int IntKind.i64 0, Value.int IntKind.i64 0, Value.int IntKind.u64 0, Value.int IntKind.u64 0] 112))
    generalize w.alloc (Obj.cells #[Value.slice none 0 0, Value.int IntKind.i64 0, Value.int IntKind.i64 0, Value.int IntKind.u64 0, Value.int IntKind.u64 0] 112) = W at BK HB ⊢
    refine (bits_TrailingZeros64.calls _ _ W (HGL.out.below HB.out) HTZ.out).mono ?_
    rintro ex w1 ⟨rfl, ⟨d1, rfl⟩⟩
    dsimp only
    go_wp2_with (fail)
    replace BK := Aside0.mk (blk_drewN BK.out d1)
    replace HB := Aside0.mk (pw_below_drewN HB.out d1)
    generalize W.drewN d1 = W1 at BK HB ⊢
    have HS := Aside0.mk (blk_lt BK.out)
    refine (HNA.out W1 (HGL.out.below HB.out)).mono ?_
    rintro ex w2 ⟨v, rfl, hR, hb⟩
    dsimp only
    replace BK := Aside0.mk (blk_below BK.out hb)
    replace HB := Aside0.mk (below_step HB.out hb)
    have HR := Aside0.mk (Kd.R_mono (ok' := fun k_ => w.heap.size < k_) (Kd.R_lower hR (Nat.le_of_lt HS.out)) (fun k_ hk => Nat.lt_of_lt_of_le HS.out hk))
    clear hR hb
    obtain ⟨A, c, rfl⟩ := Kd.R_slice HR.out
    have BK2 := fun o => blk_alloc BK.out o
    have HB2 := Aside0.mk (fun o => below_alloc HB.out o)
    have HQ := Aside0.mk (Kd.Q_of_R (Kd.R_alloc HR.out (Obj.cells #[Value.slice A yl.length c, Value.int IntKind.i64 yb, Value.int IntKind.i64 ye, Value.int IntKind.u64 z1, Value.int IntKind.u64 z2] 112)))
    have e60 : ∀ o, World.cell? (w2.alloc o) ⟨w.heap.size, 0, none⟩ = some (.slice none 0 0) := fun o => blk_cell (BK2 o) 0
    have e61 : ∀ o, World.cell? (w2.alloc o) ⟨w.heap.size, 1, none⟩ = some (.int .i64 0) := fun o => blk_cell (BK2 o) 1
    have e62 : ∀ o, World.cell? (w2.alloc o) ⟨w.heap.size, 2, none⟩ = some (.int .i64 0) := fun o => blk_cell (BK2 o) 2
    have e63 : ∀ o, World.cell? (w2.alloc o) ⟨w.heap.size, 3, none⟩ = some (.int .u64 0) := fun o => blk_cell (BK2 o) 3
    have e64 : ∀ o, World.cell? (w2.alloc o) ⟨w.heap.size, 4, none⟩ = some (.int .u64 0) := fun o => blk_cell (BK2 o) 4
    have z6 := fun o j => blk_frozen (BK2 o) j
    have BK3 := Aside0.mk BK2
    clear BK2
    go_wp2
    refine bodyPost_ret (results_ct rfl _ _ w.heap.size 112 #[.slice A yl.length c, .int .i64 yb, .int .i64 ye, .int .u64 z1, .int .u64 z2] (0, 0) _ rfl (fin5 _ _ _ _ _ (BK3.out _)) Tryd.underlying112 rfl (by kernel_rfl)) rfl ?_
    refine ⟨.slice A yl.length c, rfl, ?_, bel_grown (HB2.out _) (grown5 _ _ _ _ _) (Nat.le_refl _)⟩
    exact Kd.Q_mono (Kd.Q_grown HQ.out (grown5 _ _ _ _ _) (fun k_ hk h => by injection h with h; omega)) (fun k_ hk => Nat.le_of_lt hk)
set_option maxHeartbeats 8000000 in
set_option maxRecDepth 100000 in
theorem proofConsistencyNo.calls (s n : Int) (hi : n < s) (w : World) :
    Calls Tryd.prog 63 #[.int .u64 s, .int .u64 n] w fun ex w' => ∃ t a, ex = .returned (.tuple #[.agg #[.slice none 0 0, .int .i64 0, .int .i64 0, .int .u64 0, .int .u64 0], .iface t (.pointer (some a))]) ∧ Below w.heap.size w w' := by
  have b0 : decide (s > n) = true := decide_eq_true hi
  have b1 : decide (n < s) = true := decide_eq_true hi
  clear hi
  go_enter Tryd.func63, Tryd.ntmps63
  go_wp2_with (fail)
  have BK := Aside0.mk (blk_new w (Obj.cells #[Value.slice none 0 0, Value.int IntKind.i64 0, Value.int IntKind.i64 0, Value.int IntKind.u64 0, Value.int IntKind.u64 0] 112))
  have HB := Aside0.mk (below_alloc (Below.refl _ w) (Obj.cells #[Value.slice none 0 0, Value.int IntKind.i64 0, Value.int IntKind.i64 0, Value.int IntKind.u64 0, Value.int IntKind.u64 0] 112))
  generalize w.alloc (Obj.cells #[Value.slice none 0 0, Value.int IntKind.i64 0, Value.int IntKind.i64 0, Value.int IntKind.u64 0, Value.int IntKind.u64 0] 112) = W at BK HB ⊢
  refine (errNew.calls _ _).mono ?_
  rintro ex w2 ⟨t, q, rfl, hb⟩
  dsimp only
  replace BK := Aside0.mk (blk_below BK.out hb)
  replace HB := Aside0.mk (below_step HB.out hb)
  clear hb
  have e60 : World.cell? w2 ⟨w.heap.size, 0, none⟩ = some (.slice none 0 0) := blk_cell BK.out 0
  have e61 : World.cell? w2 ⟨w.heap.size, 1, none⟩ = some (.int .i64 0) := blk_cell BK.out 1
  have e62 : World.cell? w2 ⟨w.heap.size, 2, none⟩ = some (.int .i64 0) := blk_cell BK.out 2
  have e63 : World.cell? w2 ⟨w.heap.size, 3, none⟩ = some (.int .u64 0) := blk_cell BK.out 3
  have e64 : World.cell? w2 ⟨w.heap.size, 4, none⟩ = some (.int .u64 0) := blk_cell BK.out 4
  have z6 := blk_frozen BK.out
  go_wp2
  refine bodyPost_ret (results_ct rfl _ _ w.heap.size 112 #[.slice none 0 0, .int .i64 0, .int .i64 0, .int .u64 0, .int .u64 0] (0, 0) _ rfl (fin5 _ _ _ _ _ BK.out) Tryd.underlying112 rfl (by kernel_rfl)) rfl ?_
  exact ⟨t, q, rfl, bel_grown HB.out (grown5 _ _ _ _ _) (Nat.le_refl _)⟩
theorem nil99 (w : World) (o : Obj) : Kd.Q k99 99 ((w.alloc o).alloc (.cells #[] 99)) w.heap.size (fun k_ => w.heap.size ≤ k_) (.slice (some ⟨w.heap.size + 1, 0, none⟩) 0 0) [] := by
  have hz : (w.alloc o).heap.size = w.heap.size + 1 := by simp
  have h := Kd.cap_row k99 (W := w.alloc o) w.heap.size 99 (n := 0) (z := Value.agg #[.int .u64 0, .int .u64 0]) (bytes := 16) (by omega) (by decide) (by rw [hz]; omega) (ok := fun k_ => w.heap.size ≤ k_) (by rw [hz]; omega)
  have hm : madeCells (Value.agg #[.int .u64 0, .int .u64 0]).cells (Int.toNat 0 * (k99).sz) = #[] := by
    apply Array.eq_empty_of_size_eq_zero
    rw [size_madeCells]
    exact Nat.zero_mul _
  rw [hz, hm] at h
  exact Kd.Q_of_R h
set_option maxHeartbeats 8000000 in
set_option maxRecDepth 100000 in
theorem proofConsistencyNil.calls (s n : Int) (hle : s ≤ n) (hi : s = n ∨ s = 0) (w : World) :
    Calls Tryd.prog 63 #[.int .u64 s, .int .u64 n] w fun ex w' => ∃ v, ex = .returned (.tuple #[.agg #[v, .int .i64 0, .int .i64 0, .int .u64 0, .int .u64 0], .nilIface]) ∧ Kd.Q k99 99 w' w.heap.size (fun k_ => w.heap.size ≤ k_) v [] ∧ Below w.heap.size w w' := by
  have b0 : decide (s > n) = false := decide_eq_false (by omega)
  have b1 : decide (n < s) = false := decide_eq_false (by omega)
  by_cases h : s = n
  · have c0 : (s == n) = true := beq_iff_eq.mpr h
    clear hi hle h
    go_enter Tryd.func63, Tryd.ntmps63
    go_wp2_with (fail)
    have hQ := nil99 w (Obj.cells #[Value.slice (some ⟨w.heap.size + 1, 0, none⟩) 0 0, Value.int IntKind.i64 0, Value.int IntKind.i64 0, Value.int IntKind.u64 0, Value.int IntKind.u64 0] 112)
    have hK := blk_alloc (blk_new w (Obj.cells #[Value.slice (some ⟨w.heap.size + 1, 0, none⟩) 0 0, Value.int IntKind.i64 0, Value.int IntKind.i64 0, Value.int IntKind.u64 0, Value.int IntKind.u64 0] 112)) (Obj.cells #[] 99)
    refine bodyPost_ret (results_ct rfl _ _ w.heap.size 112 #[.slice (some ⟨w.heap.size + 1, 0, none⟩) 0 0, .int .i64 0, .int .i64 0, .int .u64 0, .int .u64 0] (0, 0) _ rfl hK Tryd.underlying112 rfl (by kernel_rfl)) rfl ?_
    exact ⟨_, rfl, hQ, below_alloc (below_alloc (Below.refl _ _) _) _⟩
  · have c0 : (s == n) = false := beq_eq_false_iff_ne.mpr h
    have c1 : (s == 0) = true := beq_iff_eq.mpr (hi.resolve_left h)
    clear hi hle h
    go_enter Tryd.func63, Tryd.ntmps63
    go_wp2_with (fail)
    have hQ := nil99 w (Obj.cells #[Value.slice (some ⟨w.heap.size + 1, 0, none⟩) 0 0, Value.int IntKind.i64 0, Value.int IntKind.i64 0, Value.int IntKind.u64 0, Value.int IntKind.u64 0] 112)
    have hK := blk_alloc (blk_new w (Obj.cells #[Value.slice (some ⟨w.heap.size + 1, 0, none⟩) 0 0, Value.int IntKind.i64 0, Value.int IntKind.i64 0, Value.int IntKind.u64 0, Value.int IntKind.u64 0] 112)) (Obj.cells #[] 99)
    refine bodyPost_ret (results_ct rfl _ _ w.heap.size 112 #[.slice (some ⟨w.heap.size + 1, 0, none⟩) 0 0, .int .i64 0, .int .i64 0, .int .u64 0, .int .u64 0] (0, 0) _ rfl hK Tryd.underlying112 rfl (by kernel_rfl)) rfl ?_
    exact ⟨_, rfl, hQ, below_alloc (below_alloc (Below.refl _ _) _) _⟩
end Go.Proofs.YtielnphmcaecdaaDoor.PAll
