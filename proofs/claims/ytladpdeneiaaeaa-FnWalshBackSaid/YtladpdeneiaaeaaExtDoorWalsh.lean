import Derived.Test.YtladpdeneiaaeaaExtWalsh
import Derived.Deep.WholeRow
namespace Go.Proofs.Ytladpdeneiaaeaa.PAll
open Go.RowKit Go.Proofs.YtladpdeneiaaeaaW.PrintWords Go.Proofs.YtladpdeneiaaeaaW.PrintLast Go.Proofs.YtladpdeneiaaeaaW.PrintMore
def z256 : List Int := List.replicate 256 0
theorem z26 (W : World) : Sem.run Try.prog (zeroValue 26) W = .ok (.agg (cells z256)) W := by kernel_rfl
theorem z29 (W : World) : Sem.run Try.prog (zeroValue 29) W = .ok (.agg (cells z256)) W := by kernel_rfl
theorem Bs0 : Bs z256 := ⟨List.length_replicate, fun x hx => by rw [(List.mem_replicate.mp hx).2]; decide⟩
theorem info26 : (Try.prog.info? 26).map (·.size) = some 256 := by kernel_rfl
theorem info29 : (Try.prog.info? 29).map (·.size) = some 256 := by kernel_rfl
theorem cells_size (l : List Int) : (cells l).size = l.length := by simp [cells]
theorem cells_one (l : List Int) : (cells l).all (·.oneCell') = true := by
  rw [Array.all_eq_true_iff_forall_mem]
  intro v hv
  unfold cells at hv
  obtain ⟨x, _, rfl⟩ := List.mem_map.mp (List.mem_toArray.mp hv)
  rfl
theorem index_run (t e : TypeId) (ht : Try.prog.underlying t = some (.array 256 e)) (he : ∀ W, (isAgg e).run Try.prog W = .ok false W) (hs : ∀ W, (sizeOf e).run Try.prog W = .ok 1 W) (l : List Int) (hl : Bs l) (i : Nat) (hi : i < 256) (W : World) :
    (Instr.index t (.agg (cells l)) (.int .i64 (i : Int))).run Try.prog W = .ok (.int .u8 (at_ l i)) W := by
  unfold Instr.index
  simp [Sem.run_bind, asIntOf, run_underlying ht, hs, part, he, hi, cells_at (l := l) (i := i) (by rw [hl.1]; exact hi)]
theorem i26 {l : List Int} (hl : Bs l) (i : Nat) (hi : i < 256) (W : World) : (Instr.index 26 (.agg (cells l)) (.int .i64 (i : Int))).run Try.prog W = .ok (.int .u8 (at_ l i)) W :=
  index_run 26 5 Try.underlying26 (fun _ => by kernel_rfl) (fun _ => by kernel_rfl) l hl i hi W
theorem i29 {l : List Int} (hl : Bs l) (i : Nat) (hi : i < 256) (W : World) : (Instr.index 29 (.agg (cells l)) (.int .i64 (i : Int))).run Try.prog W = .ok (.int .u8 (at_ l i)) W :=
  index_run 29 28 Try.underlying29 (fun _ => by kernel_rfl) (fun _ => by kernel_rfl) l hl i hi W
def mix (a b : List Int) (i : Nat) : List Int := a.take i ++ b.drop i
theorem mix_set {a b : List Int} (ha : a.length = 256) (hb : b.length = 256) {i : Nat} (hi : i < 256) : (mix a b i).set i (at_ a i) = mix a b (i + 1) := by
  apply List.ext_getElem?
  intro j
  unfold mix at_
  rw [List.getElem?_set, List.getElem?_append, List.getElem?_append, List.length_append, List.length_take, List.length_drop, List.length_take, List.getElem?_take, List.getElem?_take, List.getElem?_drop, List.getElem?_drop, List.getD_eq_getElem?_getD]
  rw [Nat.min_eq_left (by omega), Nat.min_eq_left (by omega)]
  by_cases h : i = j
  · subst h
    rw [if_pos rfl, if_pos (by omega), if_pos (by omega), if_pos (by omega), List.getElem?_eq_getElem (by omega)]; rfl
  · rw [if_neg h]
    by_cases h2 : j < i
    · rw [if_pos h2, if_pos h2, if_pos (by omega), if_pos (by omega)]
    · rw [if_neg h2, if_neg (by omega)]; congr 1; omega
theorem mix_all {a b : List Int} (ha : a.length = 256) (hb : b.length = 256) : mix a b 256 = a := by
  unfold mix; rw [List.take_of_length_le (by omega), List.drop_of_length_le (by omega), List.append_nil]
set_option maxHeartbeats 4000000 in
set_option maxRecDepth 100000 in
theorem DoorWalsh.calls (w : World) (l : List Int) (hl : Bs l) :
    Calls Try.prog 6 #[.agg (cells l), .int .i64 256] w fun e w' => e = .returned (.agg (cells (wht l))) ∧ Bs (wht l) ∧ Below w.heap.size w w' := by
  obtain ⟨m, hm⟩ : ∃ m, wht l = m := ⟨_, rfl⟩
  have Bz := Bs0
  have h26 := z26
  have h29 := z29
  generalize z256 = z at h26 h29 Bz
  have hf8 := fun w b hb => fwht8.calls w b l hl hb
  rw [hm] at hf8 ⊢
  go_enter Try.func6, Try.ntmps6
  go_wp2
  refine wp_load_row 26 (.tmp 2) rfl w.heap.size rfl 26 (cells l) (0, 0) _ (blk_alloc (blk_alloc (blk_new w _) _) _) Try.underlying26 rfl (by rw [info26, cells_size, hl.1]) ?_
  go_wp2
  try simp only [Act.put, List.setIfInBounds_toArray, List.set_cons_zero, List.set_cons_succ]
  obtain ⟨W0, hW0⟩ : ∃ W0, (((w.alloc (Obj.cells (cells l) 26)).alloc (Obj.cells (cells z) 26)).alloc (Obj.cells (cells z) 29)) = W0 := ⟨_, rfl⟩
  rw [hW0]
  have K0 : W0.heap[w.heap.size]? = some (.cells (cells l) 26 (0, 0)) := by rw [← hW0]; exact blk_alloc (blk_alloc (blk_new w _) _) _
  have K1 : W0.heap[w.heap.size + 1]? = some (.cells (cells z) 26 (0, 0)) := by rw [← hW0]; exact blk_alloc (by have := blk_new (w.alloc (Obj.cells (cells l) 26)) (Obj.cells (cells z) 26); simpa using this) _
  have K2 : W0.heap[w.heap.size + 1 + 1]? = some (.cells (cells z) 29 (0, 0)) := by rw [← hW0]; have := blk_new ((w.alloc (Obj.cells (cells l) 26)).alloc (Obj.cells (cells z) 26)) (Obj.cells (cells z) 29); simpa using this
  have KB : Below w.heap.size w W0 := by rw [← hW0]; exact below_alloc (below_alloc (below_alloc (Below.refl _ _) _) _) _
  clear hW0
  go_loopg [11] 256 (fun kq v11 w' => ∃ i : Nat, v11 = .int .i64 (i : Int) ∧ Aside0 (i + kq = 256) ∧ Aside0 (w'.heap[w.heap.size + 1 + 1]? = some (.cells (cells (mix l z i)) 29 (0, 0))) ∧ Aside0 (Only (w.heap.size + 1 + 1) W0 w'))
  case atStart => exact ⟨0, rfl, ⟨rfl⟩, ⟨K2⟩, ⟨Only.refl _ _⟩⟩
  case round =>
    obtain ⟨i, rfl, HI, HB, HO⟩ := hrel
    cases gk with
    | zero =>
      have e : i = 256 := by have := HI.out; omega
      subst e
      have HB2 := HB.out
      rw [mix_all hl.1 Bz.1] at HB2
      go_wp2_with (go_at_call 7; refine (hf8 _ _ HB2).mono ?_; rintro e w2 ⟨rfl, HC, HBs, HO2⟩)
      refine wp_load_row 29 (.tmp 5) rfl (w.heap.size + 1 + 1) rfl 29 (cells (m)) (0, 0) _ HC Try.underlying29 rfl (by rw [info29, cells_size, HBs.1]) ?_
      have O2 := HO.out.trans HO2
      have M0 : w2.heap[w.heap.size]? = some (.cells (cells l) 26 (0, 0)) := (O2.block _ (by omega)).trans K0
      have M1 : w2.heap[w.heap.size + 1]? = some (.cells (cells z) 26 (0, 0)) := (O2.block _ (by omega)).trans K1
      have MB : Below w.heap.size w w2 := ⟨O2.os.trans KB.os, O2.tape.trans KB.tape, O2.output.trans KB.output, by rw [← O2.size]; exact KB.size, fun i hi => (O2.block i (by omega)).trans (KB.block i hi)⟩
      clear HB HB2 HO HC HO2 O2 K0 K1 K2 KB
      go_wp2
      try simp only [Act.put, List.setIfInBounds_toArray, List.set_cons_zero, List.set_cons_succ]
      go_loopg [22] 256 (fun kq v22 w' => ∃ i : Nat, v22 = .int .i64 (i : Int) ∧ Aside0 (i + kq = 256) ∧ Aside0 (w'.heap[w.heap.size]? = some (.cells (cells (mix (m) l i)) 26 (0, 0))) ∧ Aside0 (Only w.heap.size w2 w'))
      case atStart => exact ⟨0, rfl, ⟨rfl⟩, ⟨M0⟩, ⟨Only.refl _ _⟩⟩
      case round =>
        obtain ⟨i, rfl, HI2, HB, HO⟩ := hrel
        cases gk with
        | zero =>
          have e : i = 256 := by have := HI2.out; omega
          subst e
          have HB3 := HB.out
          rw [mix_all HBs.1 hl.1] at HB3
          have M2 := (HO.out.block (w.heap.size + 1) (by omega)).trans M1
          go_wp2
          refine wp_load_row 26 (.tmp 2) rfl w.heap.size rfl 26 (cells (m)) (0, 0) _ HB3 Try.underlying26 rfl (by rw [info26, cells_size, HBs.1]) ?_
          go_step
          try simp only [Act.put, List.setIfInBounds_toArray, List.set_cons_zero, List.set_cons_succ]
          refine wpList_store_row rfl 26 (.tmp 4) (.tmp 30) rfl (w.heap.size + 1) (cells m) rfl rfl 26 (cells z) M2 (by rw [info26, cells_size, HBs.1]) (by rw [cells_size, cells_size, HBs.1, Bz.1]) (cells_one _) ?_
          have R3 : (wr.setRow (w.heap.size + 1) (cells m)).heap[w.heap.size + 1]? = some (.cells (cells m) 26 (0, 0)) := setRow_heap wr _ _ _ 26 (0, 0) M2
          have B3 : Below w.heap.size w (wr.setRow (w.heap.size + 1) (cells m)) := ⟨HO.out.os.trans MB.os, HO.out.tape.trans MB.tape, HO.out.output.trans MB.output, by rw [setRow_size, ← HO.out.size]; exact MB.size, fun i hi => (setRow_other wr _ _ _ (by omega)).trans ((HO.out.block i (by omega)).trans (MB.block i hi))⟩
          generalize wr.setRow (w.heap.size + 1) (cells m) = W3 at R3 B3 ⊢
          clear M2 HB3 HB HO M0 M1 MB HI HI2
          go_step
          try simp only [Exit.then, Act.put]
          go_step
          try go_step
          try simp only [Exit.inBlock, Exit.then]
          refine bodyPost_ret (results_cell_row rfl _ _ (w.heap.size + 1) 26 (cells m) (0, 0) _ rfl R3 Try.underlying26 rfl (by rw [info26, cells_size, HBs.1])) rfl ?_
          exact ⟨rfl, HBs, B3⟩
        | succ k1 =>
          have hi : i < 256 := by have := HI2.out; omega
          have c1 : decide (i < 256) = true := decide_eq_true hi
          have c2 : decide ((i : Int) < 256) = true := decide_eq_true (by omega)
          have hx := i29 HBs i hi
          have hml : (mix (m) l i).length = 256 := by unfold mix; rw [List.length_append, List.length_take, List.length_drop, hl.1, HBs.1]; omega
          have y0 := (blk_cell HB.out i).trans (cells_at (l := mix (m) l i) (i := i) (by omega))
          have z0 := blk_frozen HB.out i
          go_wp2
          go_roundg k1
          case measure => omega
          case rel => exact ⟨i + 1, by congr 1, ⟨by have := HI2.out; omega⟩, ⟨by rw [← mix_set HBs.1 hl.1 hi]; exact blk_put HB.out i _ (cells_set _ i _)⟩, ⟨HO.out.set _ _⟩⟩
    | succ k1 =>
      have hi : i < 256 := by have := HI.out; omega
      have c1 : decide (i < 256) = true := decide_eq_true hi
      have c2 : decide ((i : Int) < 256) = true := decide_eq_true (by omega)
      have hx := i26 hl i hi
      have hml : (mix l z i).length = 256 := by unfold mix; rw [List.length_append, List.length_take, List.length_drop, hl.1, Bz.1]; omega
      have y0 := (blk_cell HB.out i).trans (cells_at (l := mix l z i) (i := i) (by omega))
      have z0 := blk_frozen HB.out i
      go_wp2
      go_roundg k1
      case measure => omega
      case rel => exact ⟨i + 1, by congr 1, ⟨by have := HI.out; omega⟩, ⟨by rw [← mix_set hl.1 Bz.1 hi]; exact blk_put HB.out i _ (cells_set _ i _)⟩, ⟨HO.out.set _ _⟩⟩
end Go.Proofs.Ytladpdeneiaaeaa.PAll
