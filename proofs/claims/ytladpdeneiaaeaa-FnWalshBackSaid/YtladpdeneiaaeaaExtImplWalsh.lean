import Derived.Test.YtladpdeneiaaeaaExtDoorWalsh
import Derived.Laws.CopyOwn
namespace Go.Proofs.Ytladpdeneiaaeaa.PAll
open Go.RowKit Go.Proofs.YtladpdeneiaaeaaW.PrintWords Go.Proofs.YtladpdeneiaaeaaW.PrintLast Go.Proofs.YtladpdeneiaaeaaW.PrintMore
set_option linter.unusedVariables false
attribute [local go_sem] max2_int min2_int max_two min_two max_three min_three max_four min_four
def impl_Walsh.f (l : List Int) (n : Int) : Option (List Int) := if l.length = 256 ∧ n = 256 ∧ (∀ x ∈ l, 0 ≤ x ∧ x ≤ 255) then some (wht l) else none
theorem cells_all {w : World} {A : Option Addr} {l : List Int} (h : Kd.C (Kd.int .u8) w A l.length l) (hp : 0 < l.length) : ∃ ad, A = some ad ∧ ∀ j v, (l.map (Value.int .u8))[j]? = some v → w.cell? (ad.add j) = some v := by
  obtain ⟨ad, e, hc⟩ := h.2.2 hp
  refine ⟨ad, e, fun j v hv => ?_⟩
  rw [List.getElem?_map, Option.map_eq_some_iff] at hv
  obtain ⟨x, hx, rfl⟩ := hv
  obtain ⟨c, hl, hk, hcell⟩ := hc j x hx
  have := hcell 0 (Value.int .u8 x) (by have : c = [Value.int .u8 x] := hk; rw [this]; rfl)
  have e1 : (Kd.int .u8).sz = 1 := rfl
  rw [e1, Nat.mul_one, Nat.add_zero] at this
  exact this
set_option maxHeartbeats 4000000 in
set_option maxRecDepth 100000 in
theorem impl_Walsh.calls (A : Option Addr) (c : Nat) (l : List Int) (n : Int) (t : List Int) (w : World) (hr : Kd.C (Kd.int .u8) w A l.length l) (hc : l.length ≤ c) (h : impl_Walsh.f l n = some t) :
    Calls Try.prog 4 #[.slice A l.length c, .int .i64 n] w fun e w' => ∃ v0_, e = .returned v0_ ∧ Kd.R (Kd.int .u8) 26 w' w.heap.size (fun _ => True) v0_ t ∧ Below w.heap.size w w' := by
  unfold impl_Walsh.f at h
  by_cases hh : l.length = 256 ∧ n = 256 ∧ (∀ x ∈ l, 0 ≤ x ∧ x ≤ 255)
  case neg => rw [if_neg hh] at h; cases h
  rw [if_pos hh] at h
  obtain ⟨hl, rfl, hx⟩ := hh
  have HL : Bs l := ⟨hl, hx⟩
  have hm : wht l = t := by injection h
  have Bz := Bs0
  have h26 := z26
  have h6 := fun w => DoorWalsh.calls w l HL
  rw [hm] at h6
  generalize z256 = z at h26 Bz
  obtain ⟨cz, hcz⟩ : ∃ cz : List Value, l.map (Value.int .u8) = cz := ⟨_, rfl⟩
  have hcl : cz.length = 256 := by rw [← hcz, List.length_map]; exact hl
  clear h hm hx
  obtain ⟨zc, hzc⟩ : ∃ zc : List Value, z.map (Value.int .u8) = zc := ⟨_, rfl⟩
  have hzl : zc.length = 256 := by rw [← hzc, List.length_map]; exact Bz.1
  have hcz2 : cells z = zc.toArray := by unfold cells; rw [hzc]
  rw [hcz2] at h26
  have i5 : (Try.prog.info? 5).map (·.size) = some 1 := by kernel_rfl
  have hone : ∀ v ∈ cz, v.oneCell' = true := by
    intro v hv
    rw [← hcz] at hv
    obtain ⟨x, _, rfl⟩ := List.mem_map.mp hv
    rfl
  have hsp : splice zc 0 cz = cz := by
    unfold splice
    rw [List.take_zero, List.nil_append, List.drop_of_length_le (by omega), List.append_nil]
  have hcl2 : cz.toArray = cells l := by unfold cells; rw [hcz]
  obtain ⟨ad, rfl, hsrc⟩ := cells_all (Kd.C_below hr (below_alloc (Below.refl _ _) (Obj.cells zc.toArray 26))) (by omega)
  rw [hl]
  rw [hcz] at hsrc
  clear hcz hzc hcz2 Bz hr hc
  go_enter Try.func4, Try.ntmps4
  go_wp2_with (refine wpList_copy_splice rfl (.tmp 7) (.tmp 8) 22 22 rfl 5 Try.underlying22 i5 _ _ 256 256 256 c rfl rfl w.heap.size 0 zc 26 (blk_new w _) cz hcl (fun _ => ⟨rfl, ad, rfl, hsrc⟩) (by omega) hone w.heap.size w (below_alloc (Below.refl _ _) _) (Nat.le_refl _) ?_; intro w1 HG HB1)
  have R1 : w1.heap[w.heap.size]? = some (.cells (cells l) 26 (0, 0)) := by have := HG.out; rw [hsp, hcl2] at this; exact this
  clear HG hsp hcl2 hone hsrc
  go_loopg [6] 0 (fun kq v6 w' => v6 = .int .i64 256 ∧ Aside0 (kq = 0) ∧ Aside0 (w' = w1))
  case atStart => exact ⟨rfl, ⟨rfl⟩, ⟨rfl⟩⟩
  case round =>
    obtain ⟨rfl, HK0, HW⟩ := hrel
    have e := HW.out
    subst e
    cases gk with
    | zero =>
      have hsz : w.heap.size < wr.heap.size := (Array.getElem?_eq_some_iff.1 R1).1
      go_wp2
      refine wp_load_row 26 (.tmp 5) rfl w.heap.size rfl 26 (cells l) (0, 0) _ R1 Try.underlying26 rfl (by rw [info26, cells_size, HL.1]) ?_
      go_wp2_with (fail)
      refine (h6 _).mono ?_
      rintro e w2 ⟨rfl, HBs, HB2⟩
      dsimp only
      have R2 := (HB2.block _ hsz).trans R1
      have B2 := HB1.trans (HB2.mono (Nat.le_of_lt hsz))
      have R3 := setRow_heap w2 w.heap.size (cells l) (cells t) 26 (0, 0) R2
      have B3 := below_setRow B2 (Nat.le_refl _) (cells t)
      go_step
      first
      | refine wp_store_row 26 (.tmp 5) (.tmp 22) rfl w.heap.size (cells t) rfl rfl 26 (cells l) R2 (by rw [info26, cells_size, HBs.1]) (by rw [cells_size, cells_size, HBs.1, HL.1]) (cells_one _) ?_
      | refine wpList_store_row rfl 26 (.tmp 5) (.tmp 22) rfl w.heap.size (cells t) rfl rfl 26 (cells l) R2 (by rw [info26, cells_size, HBs.1]) (by rw [cells_size, cells_size, HBs.1, HL.1]) (cells_one _) ?_
      generalize w2.setRow w.heap.size (cells t) = w3 at R3 B3 ⊢
      go_wp2
      go_ret
      refine ⟨_, rfl, Kd.R_of_own (enc := Value.int .u8) ⟨?_, .inr ⟨w.heap.size, 256, cells t, by rw [HBs.1]; rfl, Nat.le_refl _, R3, by rw [HBs.1]; exact Nat.le_refl _, by decide, by rw [cells_size, HBs.1], ?_⟩⟩ (fun _ _ => trivial), B3⟩
      · unfold encs; rw [List.length_map, Nat.mul_one]
      · unfold cells encs; rw [List.take_of_length_le (by simp)]
    | succ k1 => have := HK0.out; omega
end Go.Proofs.Ytladpdeneiaaeaa.PAll
