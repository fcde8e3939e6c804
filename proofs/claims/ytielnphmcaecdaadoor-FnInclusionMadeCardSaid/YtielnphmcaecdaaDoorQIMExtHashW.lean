-- Written by a program of this session (wip/tools)
import Derived.Test.YtielnphmcaecdaaDoorQIMExtRehash
import Derived.Test.YtielnphmcaecdaaDoorQIMExtCons
namespace Go.Proofs.YtielnphmcaecdaaDoor.PAll
open Go.IntWalk Go.RowKit Go.Proofs.YtielnphmcaecdaaDoor.Num Go.Proofs.YtielnphmcaecdaaDoor.Mth Go.Proofs.YtielnphmcaecdaaDoorW.PrintWords Go.Proofs.YtielnphmcaecdaaDoorW.PrintLast Go.Proofs.YtielnphmcaecdaaDoorW.PrintMore
set_option linter.unusedVariables false
set_option maxHeartbeats 8000000 in
set_option maxRecDepth 100000 in
theorem rehashNo.calls (A : Option Addr) (c n : Nat) (b e z1 z2 : Int) (A0 : Option Addr) (n0 c0 : Nat) (hv : Value) (hne : n0 ≠ n) (w : World) :
    Calls Tryd.prog 64 #[.agg #[.slice A n c, .int .i64 b, .int .i64 e, .int .u64 z1, .int .u64 z2], .slice A0 n0 c0, hv] w fun ex w' => ∃ t q, ex = .returned (.tuple #[.slice none 0 0, .iface t (.pointer (some q))]) ∧ Below w.heap.size w w' := by
  have c1 : ((n0 : Int) != (n : Int)) = true := bne_iff_ne.mpr (by omega)
  have c2 : (n0 != n) = true := bne_iff_ne.mpr hne
  clear hne
  go_enter Tryd.func64, Tryd.ntmps64
  go_wp2_with (fail)
  have BK := Aside0.mk (blk_new w (Obj.cells #[Value.slice A n c, Value.int IntKind.i64 b, Value.int IntKind.i64 e, Value.int IntKind.u64 z1, Value.int IntKind.u64 z2] 112))
  go_quiet (fail)
  go_wp2_with (fail)
  refine (errNew.calls _ _).mono ?_
  rintro ex w2 ⟨t, q, rfl, hb⟩
  dsimp only
  have HB := Aside0.mk (below_step (pw_below_drewN (below_alloc (Below.refl w.heap.size w) (Obj.cells #[Value.slice A n c, Value.int IntKind.i64 b, Value.int IntKind.i64 e, Value.int IntKind.u64 z1, Value.int IntKind.u64 z2] 112)) nq) hb)
  clear hb
  go_wp2
  go_ret2
  exact ⟨t, q, rfl, HB.out⟩
set_option maxHeartbeats 16000000 in
set_option maxRecDepth 100000 in
theorem incHashes_yes (k : Nat) (a0 a1 a2 a3 a4 a5 x1 x2 z1 z2 : Int) (b e n : Nat) (A2 : Option Addr) (c2 : Nat) (l xs : List (List Int)) (f : List Int) (r : List (List Int)) (w : World) (hG : Glob w)
    (hA : ∀ W, Glob W → Calls Tryd.prog 70 #[.int .u64 x1, .int .u64 x2] W fun ex w' => ∃ A c, ex = .returned (.tuple #[.agg #[.slice A n c, .int .i64 (b : Int), .int .i64 (e : Int), .int .u64 z1, .int .u64 z2], .nilIface]) ∧ Below W.heap.size W w')
    (hr2 : Kd.C (Kd.slice 5 (Kd.int .u8)) w A2 l.length l) (hc2 : l.length ≤ c2) (hx : impl_texts.f k l = some xs) (hn : xs.length = n) (hb63 : b < 4611686018427387904) (he63 : e < 4611686018427387904) (hbe : b < e → e ≤ n)
    (hf : b < e → upB_ (impl_toy_HashChildren.f k a0 a1 a2 a3 a4 a5) ((xs.take e).drop (b + 1)) (xs.getD b []) = some f) (ho : impl_texts.f k (rehL b e xs f) = some r) :
    Calls Tryd.prog 33 #[toyV a0 a1 a2 a3 a4 a5, .int .u64 x1, .int .u64 x2, .slice A2 l.length c2] w fun ex w' => ∃ v : Value, ex = .returned (.tuple #[v, .bool true]) ∧ Kd.S (Kd.slice 5 (Kd.int .u8)) 27 w' w.heap.size (fun _ => True) v r ∧ Below w.heap.size w w' := by
  have HA := Aside0.mk hA
  have HGL := Aside0.mk hG
  have HR2 := Aside0.mk hr2
  have HC2 := Aside0.mk hc2
  have HX := Aside0.mk hx
  have HN := Aside0.mk hn
  have HB1_ := Aside0.mk hb63
  have HB2_ := Aside0.mk he63
  have HBE := Aside0.mk hbe
  have HF := Aside0.mk hf
  have HO := Aside0.mk ho
  clear hA hG hr2 hc2 hx hn hb63 he63 hbe hf ho
  go_enter Tryd.func33, Tryd.ntmps33
  go_wp2_with (fail)
  have BK := Aside0.mk (blk_new w (Obj.cells #[Value.int .i64 a0, Value.int .i64 a1, Value.int .i64 a2, Value.int .u64 a3, Value.int .u64 a4, Value.int .u64 a5] 24))
  have HB := Aside0.mk (below_alloc (Below.refl w.heap.size w) (Obj.cells #[Value.int .i64 a0, Value.int .i64 a1, Value.int .i64 a2, Value.int .u64 a3, Value.int .u64 a4, Value.int .u64 a5] 24))
  generalize w.alloc (Obj.cells #[Value.int .i64 a0, Value.int .i64 a1, Value.int .i64 a2, Value.int .u64 a3, Value.int .u64 a4, Value.int .u64 a5] 24) = W at BK HB ⊢
  refine (HA.out W (HGL.out.below HB.out)).mono ?_
  rintro ex w1 ⟨A, c, rfl, hb⟩
  dsimp only
  replace BK := Aside0.mk (blk_below BK.out hb)
  replace HB := Aside0.mk (below_step HB.out hb)
  clear hb
  go_wp2_with (fail)
  have BQ := Aside0.mk (blk_new w1 (Obj.cells #[Value.slice A n c, Value.int .i64 (b : Int), Value.int .i64 (e : Int), Value.int .u64 z1, Value.int .u64 z2] 112))
  replace BK := Aside0.mk (blk_alloc BK.out (Obj.cells #[Value.slice A n c, Value.int .i64 (b : Int), Value.int .i64 (e : Int), Value.int .u64 z1, Value.int .u64 z2] 112))
  replace HB := Aside0.mk (below_alloc HB.out (Obj.cells #[Value.slice A n c, Value.int .i64 (b : Int), Value.int .i64 (e : Int), Value.int .u64 z1, Value.int .u64 z2] 112))
  generalize w1.alloc (Obj.cells #[Value.slice A n c, Value.int .i64 (b : Int), Value.int .i64 (e : Int), Value.int .u64 z1, Value.int .u64 z2] 112) = W2 at BQ BK HB ⊢
  generalize w1.heap.size = q at BQ ⊢
  have hmf : ∀ (fn : Fn) (first cap : Array Value) (w : World), (Instr.makeFunc fn first cap).run Tryd.prog w = .ok (.func fn first cap) w := fun _ _ _ _ => rfl
  have y0 : W2.cell? ⟨w.heap.size, 0, none⟩ = some (.int .i64 a0) := blk_cell BK.out 0
  have y1 : W2.cell? ⟨w.heap.size, 1, none⟩ = some (.int .i64 a1) := blk_cell BK.out 1
  have y2 : W2.cell? ⟨w.heap.size, 2, none⟩ = some (.int .i64 a2) := blk_cell BK.out 2
  have y3 : W2.cell? ⟨w.heap.size, 3, none⟩ = some (.int .u64 a3) := blk_cell BK.out 3
  have y4 : W2.cell? ⟨w.heap.size, 4, none⟩ = some (.int .u64 a4) := blk_cell BK.out 4
  have y5 : W2.cell? ⟨w.heap.size, 5, none⟩ = some (.int .u64 a5) := blk_cell BK.out 5
  have t0 : W2.cell? ⟨q, 0, none⟩ = some (.slice A n c) := blk_cell BQ.out 0
  have t1 : W2.cell? ⟨q, 1, none⟩ = some (.int .i64 (b : Int)) := blk_cell BQ.out 1
  have t2 : W2.cell? ⟨q, 2, none⟩ = some (.int .i64 (e : Int)) := blk_cell BQ.out 2
  have t3 : W2.cell? ⟨q, 3, none⟩ = some (.int .u64 z1) := blk_cell BQ.out 3
  have t4 : W2.cell? ⟨q, 4, none⟩ = some (.int .u64 z2) := blk_cell BQ.out 4
  have HBn := Aside0.mk (Below.refl W2.heap.size W2)
  go_region_law (first
    | (go_simp; go_at_call 45
       have HW := Aside0.mk (show Below W2.heap.size W2 W2.drew from below_drew (Below.refl _ _))
       refine (impl_texts.calls k A2 c2 l xs _ ?s1 ?s2 HX.out).mono ?_
       (case s1 => exact Kd.C_below HR2.out (HB.out.trans (HW.out.mono HB.out.size)))
       (case s2 => exact HC2.out)
       rintro ex w3 ⟨v3, rfl, hS3, hb⟩
       have hb3 : Below W2.heap.size W2 w3 := Below.trans HW.out (hb.mono HW.out.size)
       have HV3 := Aside0.mk (Kd.S_R hS3)
       have HBn3 := Aside0.mk hb3
       have BK3 := Aside0.mk (blk_below BK.out hb3)
       have BQ3 := Aside0.mk (blk_below BQ.out hb3)
       have u0 : w3.cell? ⟨w.heap.size, 0, none⟩ = some (.int .i64 a0) := blk_cell BK3.out 0
       have u1 : w3.cell? ⟨w.heap.size, 1, none⟩ = some (.int .i64 a1) := blk_cell BK3.out 1
       have u2 : w3.cell? ⟨w.heap.size, 2, none⟩ = some (.int .i64 a2) := blk_cell BK3.out 2
       have u3 : w3.cell? ⟨w.heap.size, 3, none⟩ = some (.int .u64 a3) := blk_cell BK3.out 3
       have u4 : w3.cell? ⟨w.heap.size, 4, none⟩ = some (.int .u64 a4) := blk_cell BK3.out 4
       have u5 : w3.cell? ⟨w.heap.size, 5, none⟩ = some (.int .u64 a5) := blk_cell BK3.out 5
       have s0 : w3.cell? ⟨q, 0, none⟩ = some (.slice A n c) := blk_cell BQ3.out 0
       have s1 : w3.cell? ⟨q, 1, none⟩ = some (.int .i64 (b : Int)) := blk_cell BQ3.out 1
       have s2 : w3.cell? ⟨q, 2, none⟩ = some (.int .i64 (e : Int)) := blk_cell BQ3.out 2
       have s3 : w3.cell? ⟨q, 3, none⟩ = some (.int .u64 z1) := blk_cell BQ3.out 3
       have s4 : w3.cell? ⟨q, 4, none⟩ = some (.int .u64 z2) := blk_cell BQ3.out 4
       have HSW := Aside0.mk HW.out.size
       clear hS3 hb hb3)
    | (go_simp; go_at_call 64
       refine (rehash.calls k a0 a1 a2 a3 a4 a5 A c n b e z1 z2 v3 xs f W2.heap.size _ ?b1 ?b2 HN.out HB1_.out HB2_.out HBE.out HF.out).mono ?_
       (case b1 => exact HBn3.out.size)
       (case b2 => exact Kd.R_lower (by repeat (first | exact HV3.out | apply Kd.R_drewN | apply Kd.R_drew)) HSW.out)
       rintro ex w5 ⟨A5, c5, rfl, hl5, hC5, hb5⟩
       have HL5 := Aside0.mk hl5
       have HC5 := Aside0.mk hC5
       have HB5 := Aside0.mk (Below.trans HBn3.out hb5)
       clear hl5 hC5 hb5))
  all_goals
    clear y0 y1 y2 y3 y4 y5 t0 t1 t2 t3 t4 u0 u1 u2 u3 u4 u5 s0 s1 s2 s3 s4 BK BQ BK3 BQ3 HV3 HBn3 HSW HBn HW HF HN HX HR2 HC2 HBE HB1_ HB2_ HA hmf
    go_step
    simp [Act.put]
    go_step
    go_wp2_with (fail)
    go_region_law (first
      | (go_simp; go_at_call 45
         refine (impl_texts.calls k A5 c5 (rehL b e xs f) r _ ?s1 ?s2 HO.out).mono ?_
         (case s1 => exact Kd.C_drew HC5.out)
         (case s2 => exact HL5.out)
         rintro ex w6 ⟨v6, rfl, hS6, hb6⟩
         have HS6 := Aside0.mk (Kd.S_lower hS6 (Nat.le_trans HB.out.size HB5.out.size))
         have HB6 := Aside0.mk ((HB.out.trans (HB5.out.mono HB.out.size)).trans ((below_drew (Below.refl _ _)).trans hb6 |>.mono (Nat.le_trans HB.out.size HB5.out.size)))
         clear hS6 hb6))
    all_goals
      go_step
      simp [Act.put]
      go_step
      go_wp2
      go_ret2
      exact ⟨_, rfl, HS6.out, HB6.out⟩
set_option maxHeartbeats 16000000 in
set_option maxRecDepth 100000 in
theorem incHashes_len (k : Nat) (a0 a1 a2 a3 a4 a5 x1 x2 z1 z2 : Int) (b e n : Nat) (A2 : Option Addr) (c2 : Nat) (l xs r : List (List Int)) (w : World) (hG : Glob w)
    (hA : ∀ W, Glob W → Calls Tryd.prog 70 #[.int .u64 x1, .int .u64 x2] W fun ex w' => ∃ A c, ex = .returned (.tuple #[.agg #[.slice A n c, .int .i64 (b : Int), .int .i64 (e : Int), .int .u64 z1, .int .u64 z2], .nilIface]) ∧ Below W.heap.size W w')
    (hr2 : Kd.C (Kd.slice 5 (Kd.int .u8)) w A2 l.length l) (hc2 : l.length ≤ c2) (hx : impl_texts.f k l = some xs) (hn : xs.length ≠ n) (ho : impl_texts.f k [] = some r) :
    Calls Tryd.prog 33 #[toyV a0 a1 a2 a3 a4 a5, .int .u64 x1, .int .u64 x2, .slice A2 l.length c2] w fun ex w' => ∃ v : Value, ex = .returned (.tuple #[v, .bool false]) ∧ Kd.S (Kd.slice 5 (Kd.int .u8)) 27 w' w.heap.size (fun _ => True) v r ∧ Below w.heap.size w w' := by
  have HA := Aside0.mk hA
  have HGL := Aside0.mk hG
  have HR2 := Aside0.mk hr2
  have HC2 := Aside0.mk hc2
  have HX := Aside0.mk hx
  have HN := Aside0.mk hn
  have HO := Aside0.mk ho
  clear hA hG hr2 hc2 hx hn ho
  go_enter Tryd.func33, Tryd.ntmps33
  go_wp2_with (fail)
  have BK := Aside0.mk (blk_new w (Obj.cells #[Value.int .i64 a0, Value.int .i64 a1, Value.int .i64 a2, Value.int .u64 a3, Value.int .u64 a4, Value.int .u64 a5] 24))
  have HB := Aside0.mk (below_alloc (Below.refl w.heap.size w) (Obj.cells #[Value.int .i64 a0, Value.int .i64 a1, Value.int .i64 a2, Value.int .u64 a3, Value.int .u64 a4, Value.int .u64 a5] 24))
  generalize w.alloc (Obj.cells #[Value.int .i64 a0, Value.int .i64 a1, Value.int .i64 a2, Value.int .u64 a3, Value.int .u64 a4, Value.int .u64 a5] 24) = W at BK HB ⊢
  refine (HA.out W (HGL.out.below HB.out)).mono ?_
  rintro ex w1 ⟨A, c, rfl, hb⟩
  dsimp only
  replace BK := Aside0.mk (blk_below BK.out hb)
  replace HB := Aside0.mk (below_step HB.out hb)
  clear hb
  go_wp2_with (fail)
  have BQ := Aside0.mk (blk_new w1 (Obj.cells #[Value.slice A n c, Value.int .i64 (b : Int), Value.int .i64 (e : Int), Value.int .u64 z1, Value.int .u64 z2] 112))
  replace BK := Aside0.mk (blk_alloc BK.out (Obj.cells #[Value.slice A n c, Value.int .i64 (b : Int), Value.int .i64 (e : Int), Value.int .u64 z1, Value.int .u64 z2] 112))
  replace HB := Aside0.mk (below_alloc HB.out (Obj.cells #[Value.slice A n c, Value.int .i64 (b : Int), Value.int .i64 (e : Int), Value.int .u64 z1, Value.int .u64 z2] 112))
  generalize w1.alloc (Obj.cells #[Value.slice A n c, Value.int .i64 (b : Int), Value.int .i64 (e : Int), Value.int .u64 z1, Value.int .u64 z2] 112) = W2 at BQ BK HB ⊢
  generalize w1.heap.size = q at BQ ⊢
  have hmf : ∀ (fn : Fn) (first cap : Array Value) (w : World), (Instr.makeFunc fn first cap).run Tryd.prog w = .ok (.func fn first cap) w := fun _ _ _ _ => rfl
  have y0 : W2.cell? ⟨w.heap.size, 0, none⟩ = some (.int .i64 a0) := blk_cell BK.out 0
  have y1 : W2.cell? ⟨w.heap.size, 1, none⟩ = some (.int .i64 a1) := blk_cell BK.out 1
  have y2 : W2.cell? ⟨w.heap.size, 2, none⟩ = some (.int .i64 a2) := blk_cell BK.out 2
  have y3 : W2.cell? ⟨w.heap.size, 3, none⟩ = some (.int .u64 a3) := blk_cell BK.out 3
  have y4 : W2.cell? ⟨w.heap.size, 4, none⟩ = some (.int .u64 a4) := blk_cell BK.out 4
  have y5 : W2.cell? ⟨w.heap.size, 5, none⟩ = some (.int .u64 a5) := blk_cell BK.out 5
  have t0 : W2.cell? ⟨q, 0, none⟩ = some (.slice A n c) := blk_cell BQ.out 0
  have t1 : W2.cell? ⟨q, 1, none⟩ = some (.int .i64 (b : Int)) := blk_cell BQ.out 1
  have t2 : W2.cell? ⟨q, 2, none⟩ = some (.int .i64 (e : Int)) := blk_cell BQ.out 2
  have t3 : W2.cell? ⟨q, 3, none⟩ = some (.int .u64 z1) := blk_cell BQ.out 3
  have t4 : W2.cell? ⟨q, 4, none⟩ = some (.int .u64 z2) := blk_cell BQ.out 4
  have HBn := Aside0.mk (Below.refl W2.heap.size W2)
  go_region_law (first
    | (go_simp; go_at_call 45
       have HW := Aside0.mk (show Below W2.heap.size W2 W2.drew from below_drew (Below.refl _ _))
       refine (impl_texts.calls k A2 c2 l xs _ ?s1 ?s2 HX.out).mono ?_
       (case s1 => exact Kd.C_below HR2.out (HB.out.trans (HW.out.mono HB.out.size)))
       (case s2 => exact HC2.out)
       rintro ex w3 ⟨v3, rfl, hS3, hb⟩
       have hb3 : Below W2.heap.size W2 w3 := Below.trans HW.out (hb.mono HW.out.size)
       have HV3 := Aside0.mk (Kd.S_R hS3)
       obtain ⟨A3, c3, rfl⟩ := Kd.R_slice HV3.out
       have HBn3 := Aside0.mk hb3
       have BK3 := Aside0.mk (blk_below BK.out hb3)
       have BQ3 := Aside0.mk (blk_below BQ.out hb3)
       have u0 : w3.cell? ⟨w.heap.size, 0, none⟩ = some (.int .i64 a0) := blk_cell BK3.out 0
       have u1 : w3.cell? ⟨w.heap.size, 1, none⟩ = some (.int .i64 a1) := blk_cell BK3.out 1
       have u2 : w3.cell? ⟨w.heap.size, 2, none⟩ = some (.int .i64 a2) := blk_cell BK3.out 2
       have u3 : w3.cell? ⟨w.heap.size, 3, none⟩ = some (.int .u64 a3) := blk_cell BK3.out 3
       have u4 : w3.cell? ⟨w.heap.size, 4, none⟩ = some (.int .u64 a4) := blk_cell BK3.out 4
       have u5 : w3.cell? ⟨w.heap.size, 5, none⟩ = some (.int .u64 a5) := blk_cell BK3.out 5
       have s0 : w3.cell? ⟨q, 0, none⟩ = some (.slice A n c) := blk_cell BQ3.out 0
       have s1 : w3.cell? ⟨q, 1, none⟩ = some (.int .i64 (b : Int)) := blk_cell BQ3.out 1
       have s2 : w3.cell? ⟨q, 2, none⟩ = some (.int .i64 (e : Int)) := blk_cell BQ3.out 2
       have s3 : w3.cell? ⟨q, 3, none⟩ = some (.int .u64 z1) := blk_cell BQ3.out 3
       have s4 : w3.cell? ⟨q, 4, none⟩ = some (.int .u64 z2) := blk_cell BQ3.out 4
       have HSW := Aside0.mk HW.out.size
       clear hS3 hb hb3)
    | (go_simp; go_at_call 64
       refine (rehashNo.calls A c n (b : Int) (e : Int) z1 z2 A3 xs.length c3 _ HN.out _).mono ?_
       rintro ex w5 ⟨te, qe, rfl, hb5⟩
       have HB5 := Aside0.mk (Below.trans HBn3.out ((Below.mono (by repeat (first | exact Below.refl _ _ | apply Below.drew | apply pw_below_drewN)) HBn3.out.size).trans (hb5.mono HBn3.out.size)))
       clear hb5))
  all_goals
    clear y0 y1 y2 y3 y4 y5 t0 t1 t2 t3 t4 u0 u1 u2 u3 u4 u5 s0 s1 s2 s3 s4 BK BQ BK3 BQ3 HV3 HBn3 HSW HBn HW HN HX HR2 HC2 HA hmf
    go_step
    simp [Act.put]
    go_step
    go_wp2_with (fail)
    go_region_law (first
      | (go_simp; go_at_call 45
         refine (impl_texts.calls k none 0 [] r _ ?s1 ?s2 HO.out).mono ?_
         (case s1 => exact Kd.C_nil _ _)
         (case s2 => exact Nat.le_refl _)
         rintro ex w6 ⟨v6, rfl, hS6, hb6⟩
         have HS6 := Aside0.mk (Kd.S_lower hS6 (Nat.le_trans HB.out.size HB5.out.size))
         have HB6 := Aside0.mk ((HB.out.trans (HB5.out.mono HB.out.size)).trans ((below_drew (Below.refl _ _)).trans hb6 |>.mono (Nat.le_trans HB.out.size HB5.out.size)))
         clear hS6 hb6))
    all_goals
      go_step
      simp [Act.put]
      go_step
      go_wp2
      go_ret2
      exact ⟨_, rfl, HS6.out, HB6.out⟩
set_option maxHeartbeats 16000000 in
set_option maxRecDepth 100000 in
theorem incHashes_no (a0 a1 a2 a3 a4 a5 x1 x2 : Int) (v : Value) (w : World)
    (hA : ∀ W, Calls Tryd.prog 70 #[.int .u64 x1, .int .u64 x2] W fun ex w' => ∃ t a, ex = .returned (.tuple #[.agg #[.slice none 0 0, .int .i64 0, .int .i64 0, .int .u64 0, .int .u64 0], .iface t (.pointer (some a))]) ∧ Below W.heap.size W w') :
    Calls Tryd.prog 33 #[toyV a0 a1 a2 a3 a4 a5, .int .u64 x1, .int .u64 x2, v] w fun ex w' => ex = .returned (.tuple #[.slice none 0 0, .bool false]) ∧ Below w.heap.size w w' := by
  have HA := Aside0.mk hA
  clear hA
  go_enter Tryd.func33, Tryd.ntmps33
  go_wp2_with (fail)
  have HB := Aside0.mk (below_alloc (Below.refl w.heap.size w) (Obj.cells #[Value.int .i64 a0, Value.int .i64 a1, Value.int .i64 a2, Value.int .u64 a3, Value.int .u64 a4, Value.int .u64 a5] 24))
  generalize w.alloc (Obj.cells #[Value.int .i64 a0, Value.int .i64 a1, Value.int .i64 a2, Value.int .u64 a3, Value.int .u64 a4, Value.int .u64 a5] 24) = W at HB ⊢
  refine (HA.out W).mono ?_
  rintro ex w1 ⟨t, a, rfl, hb⟩
  dsimp only
  replace HB := Aside0.mk (below_step HB.out hb)
  clear hb
  go_wp2
  go_ret2
  exact ⟨rfl, below_alloc HB.out _⟩
end Go.Proofs.YtielnphmcaecdaaDoor.PAll
