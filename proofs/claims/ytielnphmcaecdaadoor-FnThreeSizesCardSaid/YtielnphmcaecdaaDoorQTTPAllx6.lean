-- Written by a program of this session (wip/tools)
import Derived.Test.YtielnphmcaecdaaDoorQTTCap
import Derived.Test.YtielnphmcaecdaaDoorQTTPAllx4
import Derived.Test.YtielnphmcaecdaaDoorQTTExtTz
import Derived.Outline
import Derived.Deep.QuietTactic
import Derived.BigQuiet
import Derived.Deep.RegionWith
import Derived.Deep.RegionLaw
import Derived.IntWalk
import Derived.Test.YtielnphmcaecdaaDoorQTTTreeMem
import Derived.Test.YtielnphmcaecdaaDoorQTTExtTreeB
set_option maxHeartbeats 8000000
set_option maxRecDepth 100000
set_option linter.unusedVariables false
set_option linter.unusedSimpArgs false
namespace Go.Proofs.YtielnphmcaecdaaDoor.PAll
open Go.IntWalk Go.RowKit Go.Proofs.YtielnphmcaecdaaDoorW.PrintWords Go.Proofs.YtielnphmcaecdaaDoorW.PrintLast Go.Proofs.YtielnphmcaecdaaDoorW.PrintMore
def OK3 (a b c k : Nat) : Prop := a ≤ k ∧ k ≠ a ∧ k ≠ b ∧ k ≠ c
theorem OK3.fresh {W : World} {a b c : Nat} {oa ob oc : Obj} (h1 : W.heap[a]? = some oa) (h2 : W.heap[b]? = some ob) (h3 : W.heap[c]? = some oc) : ∀ k, W.heap.size ≤ k → OK3 a b c k := fun k hk => by
 have := blk_lt h1; have := blk_lt h2; have := blk_lt h3
 exact ⟨by omega, by omega, by omega, by omega⟩
theorem k99_cap (P : Program) (ht : P.underlying 110 = some (.slice 99)) (hi : (P.info? 99).map (fun i => (i.zero, i.size, i.bytes)) = some (some (Value.agg #[.int .u64 0, .int .u64 0]), 2, 16)) (N : Nat) (hN : N ≤ 1000) :
 ∃ zs : Array Value, (∀ W : World, (Instr.makeSlice 110 (.int .i64 0) (.int .i64 (N : Int))).run P W = .ok (.slice (some ⟨W.heap.size, 0, none⟩) 0 N) (W.alloc (.cells zs 99))) ∧
  ∀ (W : World) (base : Nat) (ok : Nat → Prop), base ≤ W.heap.size → ok W.heap.size → Kd.R k99 99 (W.alloc (.cells zs 99)) base ok (.slice (some ⟨W.heap.size, 0, none⟩) 0 N) [] := by
 refine ⟨madeCells (Value.agg #[.int .u64 0, .int .u64 0]).cells (N * 2), fun W => ?_, fun W base ok hb hf => ?_⟩
 ·obtain ⟨i0, hi0, hzz⟩ := Option.map_eq_some_iff.1 hi
  simp only [Prod.mk.injEq] at hzz
  obtain ⟨hz0, hz1, hz2⟩ := hzz
  have hr := run_make (P := P) W 110 99 i0 (Value.agg #[.int .u64 0, .int .u64 0]) ht hi0 hz0 .i64 .i64 0 (N : Int) (by omega) (by omega) (by rw [hz2]; omega) (by omega)
  simp only [Int.toNat_natCast] at hr
  rw [hz1] at hr
  simpa using hr
 ·have := Kd.cap_row k99 (W := W) base 99 (n := (N : Int)) (z := Value.agg #[.int .u64 0, .int .u64 0]) (bytes := 16) (by omega) (by omega) hb (ok := ok) hf
  rw [Int.toNat_natCast] at this
  exact this
theorem box99 {w : World} {b : Nat} {x : S99} (hb : w.heap[b]? = some (.cells #[.int .u64 x.f0, .int .u64 x.f1] 99 (0, 0))) : ReadsRow (fun (x : S99) (cs : List Value) => cs = [.int .u64 x.f0, .int .u64 x.f1]) k99.sz w (some ⟨b, 0, none⟩) 1 [x] := by
 refine ⟨rfl, by decide, fun _ => ⟨_, rfl, fun j p hj => ?_⟩⟩
 have e : j = 0 := by have := (List.getElem?_eq_some_iff.1 hj).1; simp at this; exact this
 subst e
 have e2 : x = p := by simpa using hj
 subst e2
 refine ⟨[.int .u64 x.f0, .int .u64 x.f1], rfl, rfl, fun i u hu => ?_⟩
 have ea : (Addr.add ⟨b, 0, none⟩ (0 * k99.sz + i)) = ⟨b, i, none⟩ := by simp [Addr.add]; intro h; exact h.symm
 rw [ea]
 exact (blk_cell hb i).trans (by rw [← hu]; simp)
theorem reverse0.calls (A : Option Addr) (c : Nat) (W : World) :
 Calls Tryd.prog 115 #[.slice A 0 c] W fun e w' => e = .returned (.tuple #[]) ∧ Drawn0 W w' := by
 go_enter Tryd.func115, Tryd.ntmps115
 go_wp2
 try simp only [Act.put, List.setIfInBounds_toArray, List.set_cons_zero, List.set_cons_succ]
 go_loopg [2, 3] 0 (fun kq v2 v3 w' => v2 = .int .i64 0 ∧ v3 = .int .i64 (-1) ∧ Aside0 (Drawn0 W w'))
 case atStart => exact ⟨rfl, rfl, ⟨by repeat (first | exact Drawn0.refl _ | apply Drawn0.step)⟩⟩
 case round =>
  obtain ⟨rfl, rfl, HD⟩ := hrel
  go_wp2
  go_end0
  exact ⟨rfl, HD.out⟩
theorem grown_drawn {a b : World} {row : Option Nat} (h : Drawn0 a b) : a.grownBy b row := by
 obtain ⟨n, rfl⟩ := h
 exact ⟨rfl, rfl, rfl, Nat.le_refl _, fun _ _ _ => rfl⟩
theorem reverse_cut.calls (g q cap m N : Nat) (A : Option Addr) (xs : List S99) (W : World) (base : Nat) (ok : Nat → Prop) (hR : Kd.R k99 99 W base ok (.slice (some ⟨g, 0, none⟩) q cap) xs) (hn : q = m + N) (hl : N ≤ 100000)
 (hA : A = if cap = m then (some ⟨g, 0, none⟩ : Option Addr) else (some ⟨g, 0, none⟩ : Option Addr).map (·.add (m * 2))) :
 Calls Tryd.prog 115 #[.slice A (q - m) (cap - m)] W fun e w' => e = .returned (.tuple #[]) ∧ Kd.R k99 99 w' base ok (.slice (some ⟨g, 0, none⟩) q cap) (xs.take m ++ (xs.drop m).reverse) ∧ W.grownBy w' (some g) := by
 have hx := Kd.R_reads' hR
 rw [show q - m = N by omega]
 by_cases h : N = 0
 ·subst h
  refine (reverse0.calls A _ W).mono ?_
  rintro e w' ⟨rfl, hd⟩
  refine ⟨rfl, ?_, grown_drawn hd⟩
  rw [List.take_of_length_le (by omega), List.drop_of_length_le (by omega), List.reverse_nil, List.append_nil]
  obtain ⟨d, rfl⟩ := hd
  exact Kd.R_drewN hR d
 ·have e : A = some ⟨g, m * 2, none⟩ := by
   rw [hA, if_neg (by omega)]
   simp [Addr.add]
   intro h; exact h.symm
  subst e
  exact reverse.calls g q cap m N (cap - m) xs W base ok hR hn (by omega) hl
theorem k99_form {e : Nat} {W : World} {base : Nat} {ok : Nat → Prop} {v : Value} {xs : List S99} (h : Kd.R k99 e W base ok v xs) (h0 : 0 < xs.length) : ∃ g cap, v = .slice (some ⟨g, 0, none⟩) xs.length cap ∧ ok g := by
 obtain ⟨g, cap, hv, hq, _⟩ := Kd.R_form h h0
 subst hv
 exact ⟨g, cap, rfl, h.1 g rfl⟩
theorem below_setg {g a o : Nat} {w W : World} {v : Value} (hg : w.heap.size = g) (h : Below g w W) (ha : g ≤ a) : Below g w (W.setCell ⟨a, o, none⟩ v) := by subst hg; exact below_set h ha
theorem fin5 {W : World} {g : Nat} (s a b c d : Value) (bk : W.heap[g]? = some (.cells #[.slice none 0 0, .int .i64 0, .int .i64 0, .int .u64 0, .int .u64 0] 112 (0, 0))) :
 (((((W.setCell ⟨g, 0, none⟩ s).setCell ⟨g, 1, none⟩ a).setCell ⟨g, 2, none⟩ b).setCell ⟨g, 3, none⟩ c).setCell ⟨g, 4, none⟩ d).heap[g]? = some (.cells #[s, a, b, c, d] 112 (0, 0)) := by
 refine blk_put (cs := #[s, a, b, c, .int .u64 0]) ?_ 4 _ rfl
 refine blk_put (cs := #[s, a, b, .int .u64 0, .int .u64 0]) ?_ 3 _ rfl
 refine blk_put (cs := #[s, a, .int .i64 0, .int .u64 0, .int .u64 0]) ?_ 2 _ rfl
 refine blk_put (cs := #[s, .int .i64 0, .int .i64 0, .int .u64 0, .int .u64 0]) ?_ 1 _ rfl
 exact blk_put bk 0 _ rfl
theorem grown5 {W : World} {g : Nat} (s a b c d : Value) : W.grownBy (((((W.setCell ⟨g, 0, none⟩ s).setCell ⟨g, 1, none⟩ a).setCell ⟨g, 2, none⟩ b).setCell ⟨g, 3, none⟩ c).setCell ⟨g, 4, none⟩ d) (some g) :=
 grown_trans (grown_trans (grown_trans (grown_trans grown_set grown_set) grown_set) grown_set) grown_set
theorem bel_grown {w W W2 : World} {a : Nat} (h : Below w.heap.size w W) (hg : W.grownBy W2 (some a)) (ha : w.heap.size ≤ a) : Below w.heap.size w W2 :=
 ⟨hg.os.trans h.os, hg.tape.trans h.tape, hg.output.trans h.output, Nat.le_trans h.size hg.size, fun k hk => (hg.block k (Nat.lt_of_lt_of_le hk h.size) (fun e => by injection e with e; omega)).trans (h.block k hk)⟩
theorem bel {g : Nat} {w W W2 : World} (hg : w.heap.size = g) (h : Below g w W) (hb : Below W.heap.size W W2) : Below g w W2 := by subst hg; exact below_step h hb
theorem bela {g : Nat} {w W : World} (hg : w.heap.size = g) (h : Below g w W) (o : Obj) : Below g w (W.alloc o) := by subst hg; exact below_alloc h o
theorem belz {g : Nat} {w W : World} (hg : w.heap.size = g) (h : Below g w W) : g ≤ W.heap.size := by subst hg; exact h.size
theorem nodes.calls (k : Nat) (i l n f2 b e : Int) (m lf rt : Nat) (nd sb : Nat → S99) (RR LL : List S99) (w : World) (hG : Glob w)
 (hm : m ≤ 64) (hl0 : 0 ≤ l) (hl64 : l ≤ 64) (hlf : lf ≤ 200) (hrt : rt ≤ 200) (hlm : l + m ≤ 64)
 (h22 : bits_Len64.f k (Go.bits .xor .u64 i (n / 2 ^ l.toNat)) = some ((m : Int) + 1))
 (hfi : i / 2 ^ m = f2)
 (hcov : compact_NodeID_Coverage.f (l + m) f2 = some (b, e))
 (hszl : compact_RangeSize.f k 0 b = some (lf : Int))
 (hszr : compact_RangeSize.f k e n = some (rt : Int))
 (hnd0 : nd 0 = ⟨l, i⟩)
 (hndl : ∀ t, t ≤ m → (nd t).f0 = l + t)
 (hsib : ∀ t, t < m → compact_NodeID_Sibling.f (nd t).f0 (nd t).f1 = some ((sb t).f0, (sb t).f1))
 (hpar : ∀ t, t < m → compact_NodeID_Parent.f (nd t).f0 (nd t).f1 = some ((nd (t + 1)).f0, (nd (t + 1)).f1))
 (hR : ∀ xs : List S99, xs.length = 1 + m → compact_RangeNodes.f k e n xs = some (xs ++ RR))
 (hRl : RR.length = rt)
 (hL : ∀ xs : List S99, xs.length = 1 + m + rt → compact_RangeNodes.f k 0 b xs = some (xs ++ LL))
 (hLl : LL.length = lf)
 (eph : S99) (hep : compact_NodeID_Sibling.f (l + m) f2 = some (eph.f0, eph.f1)) :
 Calls Tryd.prog 96 #[.int .u64 i, .int .u64 l, .int .u64 n] w fun ex w' => ∃ v : Value, ex = .returned (.agg #[v, .int .i64 (if rt = 0 then 0 else 1 + m), .int .i64 (if rt = 0 then 0 else 1 + m + rt), .int .u64 eph.f0, .int .u64 eph.f1]) ∧ Kd.R k99 99 w' w.heap.size (fun k_ => w.heap.size ≤ k_) v (nd 0 :: (List.range m).map sb ++ RR.reverse ++ LL.reverse) ∧ Below w.heap.size w w' := by
 have HGL := Aside0.mk hG
 clear hG
 have H22 := Aside0.mk h22
 have HCOV := Aside0.mk hcov
 have HSZL := Aside0.mk hszl
 have HSZR := Aside0.mk hszr
 have HND0 := Aside0.mk hnd0
 have HNDL := Aside0.mk hndl
 have HSIB := Aside0.mk hsib
 have HPAR := Aside0.mk hpar
 have HRR := Aside0.mk hR
 have HRL := Aside0.mk hRl
 have HLL := Aside0.mk hL
 have HLEN := Aside0.mk hLl
 have HEP := Aside0.mk hep
 clear h22 hcov hszl hszr hnd0 hndl hsib hpar hR hRl hL hLl hep
 have m0 : 0 ≤ (m : Int) := by omega
 have m1 : (m : Int) ≤ 64 := by omega
 have lf0 : 0 ≤ (lf : Int) := by omega
 have lf1 : (lf : Int) ≤ 200 := by omega
 have rt0 : 0 ≤ (rt : Int) := by omega
 have rt1 : (rt : Int) ≤ 200 := by omega
 go_enter Tryd.func96, Tryd.ntmps96
 go_wp2_with (fail)
 have BK6 := Aside0.mk (blk_new w (Obj.cells #[Value.slice none 0 0, Value.int IntKind.i64 0, Value.int IntKind.i64 0, Value.int IntKind.u64 0, Value.int IntKind.u64 0] 112))
 have HB := Aside0.mk (below_alloc (Below.refl _ w) (Obj.cells #[Value.slice none 0 0, Value.int IntKind.i64 0, Value.int IntKind.i64 0, Value.int IntKind.u64 0, Value.int IntKind.u64 0] 112))
 generalize w.alloc (Obj.cells #[Value.slice none 0 0, Value.int IntKind.i64 0, Value.int IntKind.i64 0, Value.int IntKind.u64 0, Value.int IntKind.u64 0] 112) = W at BK6 HB ⊢
 generalize hg6 : w.heap.size = g6 at BK6 HB ⊢
 have HG6 := Aside0.mk hg6
 clear hg6
 refine (bits_Len64.calls k _ _ _ H22.out).mono ?_
 rintro ex w1 ⟨rfl, ⟨d1, rfl⟩⟩
 dsimp only
 go_wp2_with (fail)
 replace BK6 := Aside0.mk (blk_drewN BK6.out d1)
 replace HB := Aside0.mk (pw_below_drewN HB.out d1)
 generalize W.drewN d1 = W1 at BK6 HB ⊢
 refine (compact_NewNodeID.calls (l + m) f2 _ _ W1 rfl).mono ?_
 rintro ex w1 ⟨rfl, hb⟩
 dsimp only
 replace BK6 := Aside0.mk (blk_below BK6.out hb)
 replace HB := Aside0.mk (bel HG6.out HB.out hb)
 clear hb
 go_wp2_with (fail)
 have BK8 := Aside0.mk (blk_new w1 (Obj.cells #[Value.int IntKind.u64 (l + (m : Int)), Value.int IntKind.u64 f2] 99))
 have G8 := Aside0.mk (belz HG6.out HB.out)
 replace BK6 := Aside0.mk (blk_alloc BK6.out (Obj.cells #[Value.int IntKind.u64 (l + (m : Int)), Value.int IntKind.u64 f2] 99))
 replace HB := Aside0.mk (bela HG6.out HB.out (Obj.cells #[Value.int IntKind.u64 (l + (m : Int)), Value.int IntKind.u64 f2] 99))
 generalize w1.alloc (Obj.cells #[Value.int IntKind.u64 (l + (m : Int)), Value.int IntKind.u64 f2] 99) = W2 at BK6 HB BK8 ⊢
 generalize w1.heap.size = g8 at BK8 G8 ⊢
 refine (compact_NodeID_Coverage.calls (l + m) f2 _ _ W2 HCOV.out).mono ?_
 rintro ex w2 ⟨rfl, hb⟩
 dsimp only
 replace BK6 := Aside0.mk (blk_below BK6.out hb)
 replace BK8 := Aside0.mk (blk_below BK8.out hb)
 replace HB := Aside0.mk (bel HG6.out HB.out hb)
 clear hb
 go_wp2_with (fail)
 refine (compact_RangeSize.calls k _ _ _ _ HSZL.out).mono ?_
 rintro ex w3 ⟨rfl, ⟨d2, rfl⟩⟩
 dsimp only
 go_wp2_with (fail)
 refine (compact_RangeSize.calls k _ _ _ _ HSZR.out).mono ?_
 rintro ex w3 ⟨rfl, ⟨d3, rfl⟩⟩
 dsimp only
 go_wp2_with (fail)
 replace BK6 := Aside0.mk (blk_drewN BK6.out (d2 + d3))
 replace BK8 := Aside0.mk (blk_drewN BK8.out (d2 + d3))
 replace HB := Aside0.mk (pw_below_drewN HB.out (d2 + d3))
 generalize w2.drewN (d2 + d3) = W3 at BK6 BK8 HB ⊢
 refine (compact_NewNodeID.calls l i _ _ W3 rfl).mono ?_
 rintro ex w3 ⟨rfl, hb⟩
 dsimp only
 replace BK6 := Aside0.mk (blk_below BK6.out hb)
 replace BK8 := Aside0.mk (blk_below BK8.out hb)
 replace HB := Aside0.mk (bel HG6.out HB.out hb)
 clear hb
 go_wp2_with (fail)
 have BK13 := Aside0.mk (blk_new w3 (Obj.cells #[Value.int IntKind.u64 l, Value.int IntKind.u64 i] 99))
 have G13 := Aside0.mk (belz HG6.out HB.out)
 replace BK6 := Aside0.mk (blk_alloc BK6.out (Obj.cells #[Value.int IntKind.u64 l, Value.int IntKind.u64 i] 99))
 replace BK8 := Aside0.mk (blk_alloc BK8.out (Obj.cells #[Value.int IntKind.u64 l, Value.int IntKind.u64 i] 99))
 replace HB := Aside0.mk (bela HG6.out HB.out (Obj.cells #[Value.int IntKind.u64 l, Value.int IntKind.u64 i] 99))
 generalize w3.alloc (Obj.cells #[Value.int IntKind.u64 l, Value.int IntKind.u64 i] 99) = W4 at BK6 HB BK8 BK13 ⊢
 generalize w3.heap.size = g13 at BK13 G13 ⊢
 have y1 : W4.cell? ⟨g13, 0, none⟩ = some (.int .u64 l) := blk_cell BK13.out 0
 have y2 : W4.cell? ⟨g13, 1, none⟩ = some (.int .u64 i) := blk_cell BK13.out 1
 obtain ⟨zs, hmk, hrow⟩ := k99_cap Tryd.prog Tryd.underlying110 info99 (1 + m + rt + lf) (by omega)
 have eN : (1 + (m : Int) + (rt : Int) + (lf : Int)) = ((1 + m + rt + lf : Nat) : Int) := by omega
 rw [← eN] at hmk
 have hmk2 : ∀ W : World, (Instr.makeSlice 110 (.int .i64 0) (.int .i64 (IntKind.i64.wrap (IntKind.i64.wrap (IntKind.i64.wrap (1 + (m : Int)) + (rt : Int)) + (lf : Int))))).run Tryd.prog W = .ok (.slice (some ⟨W.heap.size, 0, none⟩) 0 (1 + m + rt + lf)) (W.alloc (.cells zs 99)) := by
  intro W
  rw [show IntKind.i64.wrap (1 + (m : Int)) = 1 + (m : Int) from i64_in _ ⟨by omega, by omega⟩, show IntKind.i64.wrap (1 + (m : Int) + rt) = 1 + (m : Int) + rt from i64_in _ ⟨by omega, by omega⟩, show IntKind.i64.wrap (1 + (m : Int) + rt + lf) = 1 + (m : Int) + rt + lf from i64_in _ ⟨by omega, by omega⟩]
  exact hmk W
 have HROW := Aside0.mk hrow
 clear hrow eN
 have y3 : ∀ o, (W4.alloc o).cell? ⟨g13, 0, none⟩ = some (.int .u64 l) := fun o => blk_cell (blk_alloc BK13.out o) 0
 have y4 : ∀ o, (W4.alloc o).cell? ⟨g13, 1, none⟩ = some (.int .u64 i) := fun o => blk_cell (blk_alloc BK13.out o) 1
 have hs4 : g6 ≤ W4.heap.size := belz HG6.out HB.out
 have RA := Aside0.mk (fun o => Kd.R_drew (Kd.R_alloc (HROW.out W4 g6 (OK3 g6 g8 g13) hs4 (OK3.fresh BK6.out BK8.out BK13.out _ (Nat.le_refl _))) o))
 have RB := Aside0.mk (show ∀ o, Kd.R k99 99 ((W4.alloc o).alloc (.cells zs 99)).drew g6 (OK3 g6 g8 g13) (.slice (some ⟨W4.heap.size + 1, 0, none⟩) 0 (1 + m + rt + lf)) [] from fun o => by
  have h := Kd.R_drew (HROW.out (W4.alloc o) g6 (OK3 g6 g8 g13) (belz HG6.out (bela HG6.out HB.out o)) (OK3.fresh (blk_alloc BK6.out o) (blk_alloc BK8.out o) (blk_alloc BK13.out o) _ (Nat.le_refl _)))
  rw [show (W4.alloc o).heap.size = W4.heap.size + 1 from by simp] at h
  exact h)
 have XA := Aside0.mk (show ∀ o, ((W4.alloc o).alloc (Obj.cells #[Value.int IntKind.u64 l, Value.int IntKind.u64 i] 99)).drew.heap[W4.heap.size + 1]? = some (.cells #[Value.int IntKind.u64 l, Value.int IntKind.u64 i] 99 (0, 0)) from fun o => by
  have h := blk_drew (blk_new (W4.alloc o) (Obj.cells #[Value.int IntKind.u64 l, Value.int IntKind.u64 i] 99))
  rw [show (W4.alloc o).heap.size = W4.heap.size + 1 from by simp] at h
  exact h)
 have XB := Aside0.mk (show ∀ o, ((W4.alloc (Obj.cells #[Value.int IntKind.u64 l, Value.int IntKind.u64 i] 99)).alloc o).drew.heap[W4.heap.size]? = some (.cells #[Value.int IntKind.u64 l, Value.int IntKind.u64 i] 99 (0, 0)) from fun o => blk_drew (blk_alloc (blk_new W4 _) o))
 have FA := Aside0.mk (fun o1 o2 => OK3.fresh (blk_drew (blk_alloc (blk_alloc BK6.out o1) o2)) (blk_drew (blk_alloc (blk_alloc BK8.out o1) o2)) (blk_drew (blk_alloc (blk_alloc BK13.out o1) o2)))
 have BB := Aside0.mk (fun o1 o2 => below_drew1 (bela HG6.out (bela HG6.out HB.out o1) o2))
 go_region_law (first
  | (
   refine Kd.R_append_rows_step k99 (Rr := fun (x : S99) cs => cs = [.int .u64 x.f0, .int .u64 x.f1]) (w0 := w) g6 ?hw (.tmp 51) (.tmp 53) 110 99 (.agg #[.int .u64 0, .int .u64 0]) 16 rfl Tryd.underlying110 info99 rfl (by decide) (by omega) _ [] [(⟨l, i⟩ : S99)] _ 1 1 (OK3 g6 g8 g13) (fun _ => False) rfl rfl ?aO ?aR (fun x cs h => by subst h; exact k99_mkM _ _ _ x) (fun _ h => h.elim) ?aF ?aB ?aS ?aL ?_
   (case hw => simp [Region.wanted])
   (case aL => exact (by decide))
   (case aF => exact FA.out _ _)
   (case aB => exact BB.out _ _)
   (case aS => exact belz HG6.out (BB.out _ _))
   (case aO => first | exact RA.out _ | exact RB.out _)
   (case aR => first | exact box99 (x := ⟨l, i⟩) (XA.out _) | exact box99 (x := ⟨l, i⟩) (XB.out _))
   intro v5 w5 hR5 hB5 hg5 hat5
   have n6 := Aside0.mk (blk_grown (blk_drew (blk_alloc (blk_alloc BK6.out _) _)) hg5 (fun e => by first | exact ((RA.out (Obj.cells #[Value.int IntKind.u64 l, Value.int IntKind.u64 i] 99)).1 g6 e.symm).2.1 rfl | exact ((RB.out (Obj.cells #[Value.int IntKind.u64 l, Value.int IntKind.u64 i] 99)).1 g6 e.symm).2.1 rfl))
   have n8 := Aside0.mk (blk_grown (blk_drew (blk_alloc (blk_alloc BK8.out _) _)) hg5 (fun e => by first | exact ((RA.out (Obj.cells #[Value.int IntKind.u64 l, Value.int IntKind.u64 i] 99)).1 g8 e.symm).2.2.1 rfl | exact ((RB.out (Obj.cells #[Value.int IntKind.u64 l, Value.int IntKind.u64 i] 99)).1 g8 e.symm).2.2.1 rfl))
   have n13 := Aside0.mk (blk_grown (blk_drew (blk_alloc (blk_alloc BK13.out _) _)) hg5 (fun e => by first | exact ((RA.out (Obj.cells #[Value.int IntKind.u64 l, Value.int IntKind.u64 i] 99)).1 g13 e.symm).2.2.2 rfl | exact ((RB.out (Obj.cells #[Value.int IntKind.u64 l, Value.int IntKind.u64 i] 99)).1 g13 e.symm).2.2.2 rfl))
   have HR5 := Aside0.mk hR5
   have HB5 := Aside0.mk hB5
   clear hR5 hB5 hg5 hat5))
 all_goals
  clear y1 y2 y3 y4 hmk hmk2 hs4
  clear BK6 BK8 BK13 HB HROW RA RB XA XB FA BB
  go_step
  (try simp [Act.put])
  go_step
  go_wp2
  have hw1 : IntKind.i64.wrap (1 + (m : Int)) = 1 + (m : Int) := i64_in _ ⟨by omega, by omega⟩
  have hw2 : IntKind.i64.wrap (1 + (m : Int) + rt) = 1 + (m : Int) + rt := i64_in _ ⟨by omega, by omega⟩
  have hw3 : IntKind.i64.wrap (1 + (m : Int) + rt + lf) = 1 + (m : Int) + rt + lf := i64_in _ ⟨by omega, by omega⟩
  rw [hw1, hw2, hw3]
  clear hw1 hw2 hw3
  go_loopg [14] m (fun kq v14 w' => ∃ t : Nat, Aside0 (t + kq = m) ∧ Aside0 (Kd.R k99 99 w' g6 (OK3 g6 g8 g13) v14 (nd 0 :: (List.range t).map sb)) ∧ Aside0 (w'.heap[g6]? = some (.cells #[Value.slice none 0 0, Value.int IntKind.i64 0, Value.int IntKind.i64 0, Value.int IntKind.u64 0, Value.int IntKind.u64 0] 112 (0, 0))) ∧ Aside0 (w'.heap[g8]? = some (.cells #[Value.int IntKind.u64 (l + (m : Int)), Value.int IntKind.u64 f2] 99 (0, 0))) ∧ Aside0 (w'.heap[g13]? = some (.cells #[Value.int IntKind.u64 (l + (t : Int)), Value.int IntKind.u64 (nd t).f1] 99 (0, 0))) ∧ Aside0 (Below g6 w w'))
  case atStart =>
   refine ⟨0, ⟨by omega⟩, ⟨?_⟩, n6, n8, ⟨?_⟩, HB5⟩
   ·rw [HND0.out]; exact HR5.out
   ·rw [HND0.out]
    have h := n13.out
    simpa using h
  case round =>
   clear HR5 n6 n8 n13 HB5
   obtain ⟨t, HT, HR, BK6, BK8, BK13, HB⟩ := hrel
   obtain ⟨gs, cap, rfl, hoks⟩ := k99_form HR.out (by simp)
   have c1 := blk_cell BK13.out 0
   have c2 := blk_cell BK8.out 0
   replace c1 : World.cell? _ ⟨g13, 0, none⟩ = some (.int .u64 (l + (t : Int))) := c1
   replace c2 : World.cell? _ ⟨g8, 0, none⟩ = some (.int .u64 (l + (m : Int))) := c2
   cases gk with
   | zero =>
    have et : t = m := by have := HT.out; omega
    subst et
    have b0 : decide (l + (t : Int) < l + (t : Int)) = false := decide_eq_false (by omega)
    have hlen : (nd 0 :: (List.range t).map sb).length = 1 + t := by simp; omega
    obtain ⟨xs, hxs⟩ : ∃ xs, xs = nd 0 :: (List.range t).map sb := ⟨_, rfl⟩
    rw [← hxs] at HR hlen ⊢
    rw [hlen] at HR ⊢
    have HXS := Aside0.mk hxs
    have HXL := Aside0.mk hlen
    clear hxs hlen hoks
    obtain ⟨p, hp⟩ : ∃ p, p = 1 + t := ⟨_, rfl⟩
    rw [← hp] at HR HXL ⊢
    have p1 : (p : Int) ≤ 65 := by omega
    have p0 : 0 ≤ (p : Int) := by omega
    have HP := Aside0.mk hp
    clear hp
    go_wp2_with (fail)
    have hg6 := HG6.out
    subst hg6
    clear HG6
    refine (compact_RangeNodes.calls k e n (OK3 w.heap.size g8 g13) _ xs (xs ++ RR) w _ HGL.out HB.out HR.out (HRR.out xs (by rw [HXL.out, HP.out]))).mono ?_
    rintro ex w6 ⟨v6, rfl, hR6, hB6, hK6⟩
    dsimp only
    replace HR := Aside0.mk (Kd.R_mono (ok' := OK3 w.heap.size g8 g13) hR6 (fun k_ h => h.elim (fun h => h) (OK3.fresh BK6.out BK8.out BK13.out k_)))
    replace BK6 := Aside0.mk (blk_kept BK6.out hK6 (fun h => h.2.1 rfl))
    replace BK8 := Aside0.mk (blk_kept BK8.out hK6 (fun h => h.2.2.1 rfl))
    replace BK13 := Aside0.mk (blk_kept BK13.out hK6 (fun h => h.2.2.2 rfl))
    replace HB := Aside0.mk hB6
    clear hR6 hB6 hK6 c1 c2
    obtain ⟨g7, cap7, rfl, hok7⟩ := k99_form HR.out (by rw [List.length_append, HXL.out, HP.out]; omega)
    obtain ⟨q, hq⟩ : ∃ q, q = (xs ++ RR).length := ⟨_, rfl⟩
    rw [← hq] at HR ⊢
    have HQ := Aside0.mk (show q = p + rt by rw [hq, List.length_append, HXL.out, HRL.out])
    have q1 : (q : Int) ≤ 300 := by have := HQ.out; omega
    have q0 : 0 ≤ (q : Int) := by omega
    have HOK7 := Aside0.mk hok7
    clear hq hok7
    obtain ⟨i99, hi99, _, hsz99, _⟩ := info_parts info99
    have hcap7 := (Kd.R_reads' HR.out).2.1
    have hcut := cut_from (P := Tryd.prog) 110 99 .i64 Tryd.underlying110 hi99 2 hsz99 (some ⟨g7, 0, none⟩) q cap7 ((q : Int) - (rt : Int)) (by have := HQ.out; omega) (by omega)
    have ej : ((q : Int) - (rt : Int)).toNat = p := by have := HQ.out; omega
    rw [ej] at hcut
    obtain ⟨A7, hA7⟩ : ∃ A, A = (if cap7 = p then (some ⟨g7, 0, none⟩ : Option Addr) else (some ⟨g7, 0, none⟩ : Option Addr).map (·.add (p * 2))) := ⟨_, rfl⟩
    rw [← hA7] at hcut
    have HA7 := Aside0.mk hA7
    have s0 : 0 ≤ (q : Int) - (rt : Int) := by have := HQ.out; omega
    have s1 : (q : Int) - (rt : Int) ≤ (q : Int) := by omega
    clear hA7 ej hi99 hsz99 hcap7
    go_wp2_with (fail)
    refine (reverse_cut.calls g7 q cap7 p rt A7 (xs ++ RR) w6 _ _ HR.out HQ.out (by omega) HA7.out).mono ?_
    rintro ex w7 ⟨rfl, hR7, hg7⟩
    dsimp only
    rw [List.take_left' HXL.out, List.drop_left' HXL.out] at hR7
    replace HR := Aside0.mk hR7
    replace BK6 := Aside0.mk (blk_grown BK6.out hg7 (fun h => HOK7.out.2.1 (by injection h with h; exact h.symm)))
    replace BK8 := Aside0.mk (blk_grown BK8.out hg7 (fun h => HOK7.out.2.2.1 (by injection h with h; exact h.symm)))
    replace BK13 := Aside0.mk (blk_grown BK13.out hg7 (fun h => HOK7.out.2.2.2 (by injection h with h; exact h.symm)))
    replace HB := Aside0.mk (bel_grown HB.out hg7 HOK7.out.1)
    clear hR7 hg7 hcut HA7 s0 s1
    go_wp2_with (fail)
    refine (compact_RangeNodes.calls k 0 b (OK3 w.heap.size g8 g13) _ (xs ++ RR.reverse) (xs ++ RR.reverse ++ LL) w _ HGL.out HB.out HR.out (HLL.out _ (by rw [List.length_append, List.length_reverse, HXL.out, HRL.out, HP.out]))).mono ?_
    rintro ex w8 ⟨v8, rfl, hR6, hB6, hK6⟩
    dsimp only
    replace HR := Aside0.mk (Kd.R_mono (ok' := OK3 w.heap.size g8 g13) hR6 (fun k_ h => h.elim (fun h => h) (OK3.fresh BK6.out BK8.out BK13.out k_)))
    replace BK6 := Aside0.mk (blk_kept BK6.out hK6 (fun h => h.2.1 rfl))
    replace BK8 := Aside0.mk (blk_kept BK8.out hK6 (fun h => h.2.2.1 rfl))
    replace BK13 := Aside0.mk (blk_kept BK13.out hK6 (fun h => h.2.2.2 rfl))
    replace HB := Aside0.mk hB6
    clear hR6 hB6 hK6 HOK7
    have hxq : (xs ++ RR.reverse).length = q := by rw [List.length_append, List.length_reverse, HXL.out, HRL.out, HQ.out]
    obtain ⟨g9, cap9, rfl, hok9⟩ := k99_form HR.out (by rw [List.length_append, hxq]; have := HQ.out; have := HP.out; omega)
    obtain ⟨u, hu⟩ : ∃ u, u = (xs ++ RR.reverse ++ LL).length := ⟨_, rfl⟩
    rw [← hu] at HR ⊢
    have HU := Aside0.mk (show u = q + lf by rw [hu, List.length_append, hxq, HLEN.out])
    have u1 : (u : Int) ≤ 600 := by have := HU.out; omega
    have u0 : 0 ≤ (u : Int) := by omega
    have HOK9 := Aside0.mk hok9
    have HXQ := Aside0.mk hxq
    clear hu hok9 hxq
    obtain ⟨i99, hi99, _, hsz99, _⟩ := info_parts info99
    have hcut := cut_from (P := Tryd.prog) 110 99 .i64 Tryd.underlying110 hi99 2 hsz99 (some ⟨g9, 0, none⟩) u cap9 ((u : Int) - (lf : Int)) (by have := HU.out; omega) (by omega)
    have ej : ((u : Int) - (lf : Int)).toNat = q := by have := HU.out; omega
    rw [ej] at hcut
    obtain ⟨A9, hA9⟩ : ∃ A, A = (if cap9 = q then (some ⟨g9, 0, none⟩ : Option Addr) else (some ⟨g9, 0, none⟩ : Option Addr).map (·.add (q * 2))) := ⟨_, rfl⟩
    rw [← hA9] at hcut
    have HA9 := Aside0.mk hA9
    have s0 : 0 ≤ (u : Int) - (lf : Int) := by have := HU.out; omega
    have s1 : (u : Int) - (lf : Int) ≤ (u : Int) := by omega
    clear hA9 ej hi99 hsz99
    go_wp2_with (fail)
    refine (reverse_cut.calls g9 u cap9 q lf A9 (xs ++ RR.reverse ++ LL) w8 _ _ HR.out HU.out (by omega) HA9.out).mono ?_
    rintro ex w9 ⟨rfl, hR7, hg7⟩
    dsimp only
    rw [List.take_left' HXQ.out, List.drop_left' HXQ.out] at hR7
    replace HR := Aside0.mk hR7
    replace BK6 := Aside0.mk (blk_grown BK6.out hg7 (fun h => HOK9.out.2.1 (by injection h with h; exact h.symm)))
    replace BK8 := Aside0.mk (blk_grown BK8.out hg7 (fun h => HOK9.out.2.2.1 (by injection h with h; exact h.symm)))
    replace HB := Aside0.mk (bel_grown HB.out hg7 HOK9.out.1)
    clear hR7 hg7 hcut HA9 s0 s1 BK13
    have e1 := blk_cell BK8.out 0
    have e2 := blk_cell BK8.out 1
    replace e1 : World.cell? _ ⟨g8, 0, none⟩ = some (.int .u64 (l + (t : Int))) := e1
    replace e2 : World.cell? _ ⟨g8, 1, none⟩ = some (.int .u64 f2) := e2
    have e60 : World.cell? _ ⟨w.heap.size, 0, none⟩ = some (.slice none 0 0) := blk_cell BK6.out 0
    have e61 : World.cell? _ ⟨w.heap.size, 1, none⟩ = some (.int .i64 0) := blk_cell BK6.out 1
    have e62 : World.cell? _ ⟨w.heap.size, 2, none⟩ = some (.int .i64 0) := blk_cell BK6.out 2
    have e63 : World.cell? _ ⟨w.heap.size, 3, none⟩ = some (.int .u64 0) := blk_cell BK6.out 3
    have e64 : World.cell? _ ⟨w.heap.size, 4, none⟩ = some (.int .u64 0) := blk_cell BK6.out 4
    have z6 := blk_frozen BK6.out
    by_cases hr0 : rt = 0
    ·have g1 : decide ((p : Int) ≥ (q : Int)) = true := decide_eq_true (by have := HQ.out; omega)
     have g2 : decide ((q : Int) ≤ (p : Int)) = true := decide_eq_true (by have := HQ.out; omega)
     have g3 : decide (q ≤ p) = true := decide_eq_true (by have := HQ.out; omega)
     have g4 : decide (p ≥ q) = true := decide_eq_true (by have := HQ.out; omega)
     go_wp2_with (fail)
     refine (compact_NodeID_Sibling.calls _ _ _ _ w9 HEP.out).mono ?_
     rintro ex w10 ⟨rfl, hb⟩
     dsimp only
     replace HR := Aside0.mk (Kd.R_below HR.out hb)
     replace BK6 := Aside0.mk (blk_below BK6.out hb)
     replace HB := Aside0.mk (below_step HB.out hb)
     clear hb e60 e61 e62 e63 e64 z6 e1 e2
     have e60 : World.cell? w10 ⟨w.heap.size, 0, none⟩ = some (.slice none 0 0) := blk_cell BK6.out 0
     have e61 : World.cell? w10 ⟨w.heap.size, 1, none⟩ = some (.int .i64 0) := blk_cell BK6.out 1
     have e62 : World.cell? w10 ⟨w.heap.size, 2, none⟩ = some (.int .i64 0) := blk_cell BK6.out 2
     have e63 : World.cell? w10 ⟨w.heap.size, 3, none⟩ = some (.int .u64 0) := blk_cell BK6.out 3
     have e64 : World.cell? w10 ⟨w.heap.size, 4, none⟩ = some (.int .u64 0) := blk_cell BK6.out 4
     have z6 := blk_frozen BK6.out
     go_wp2
     refine bodyPost_ret (results_cell_row rfl _ _ w.heap.size 112 #[.slice (some ⟨g9, 0, none⟩) u cap9, .int .i64 0, .int .i64 0, .int .u64 eph.f0, .int .u64 eph.f1] (0, 0) _ rfl (fin5 _ _ _ _ _ BK6.out) Tryd.underlying112 rfl (by kernel_rfl)) rfl ?_
     refine ⟨.slice (some ⟨g9, 0, none⟩) u cap9, by first | rfl | (rw [if_pos hr0, if_pos hr0]; done), ?_, bel_grown HB.out (grown5 _ _ _ _ _) (Nat.le_refl _)⟩
     have hF := Kd.R_mono (ok' := fun k_ => w.heap.size ≤ k_) (Kd.R_grown HR.out (grown5 (W := w10) (g := w.heap.size) (.slice (some ⟨g9, 0, none⟩) u cap9) (.int .i64 0) (.int .i64 0) (.int .u64 eph.f0) (.int .u64 eph.f1)) (fun k_ hk h => hk.2.1 (by injection h))) (fun k_ hk => hk.1)
     rw [HXS.out] at hF
     rw [List.append_assoc] at hF
     exact hF
    ·have g1 : decide ((p : Int) ≥ (q : Int)) = false := decide_eq_false (by have := HQ.out; omega)
     have g2 : decide ((q : Int) ≤ (p : Int)) = false := decide_eq_false (by have := HQ.out; omega)
     have g3 : decide (q ≤ p) = false := decide_eq_false (by have := HQ.out; omega)
     have g4 : decide (p ≥ q) = false := decide_eq_false (by have := HQ.out; omega)
     go_wp2_with (fail)
     refine (compact_NodeID_Sibling.calls _ _ _ _ w9 HEP.out).mono ?_
     rintro ex w10 ⟨rfl, hb⟩
     dsimp only
     replace HR := Aside0.mk (Kd.R_below HR.out hb)
     replace BK6 := Aside0.mk (blk_below BK6.out hb)
     replace HB := Aside0.mk (below_step HB.out hb)
     clear hb e60 e61 e62 e63 e64 z6 e1 e2
     have e60 : World.cell? w10 ⟨w.heap.size, 0, none⟩ = some (.slice none 0 0) := blk_cell BK6.out 0
     have e61 : World.cell? w10 ⟨w.heap.size, 1, none⟩ = some (.int .i64 0) := blk_cell BK6.out 1
     have e62 : World.cell? w10 ⟨w.heap.size, 2, none⟩ = some (.int .i64 0) := blk_cell BK6.out 2
     have e63 : World.cell? w10 ⟨w.heap.size, 3, none⟩ = some (.int .u64 0) := blk_cell BK6.out 3
     have e64 : World.cell? w10 ⟨w.heap.size, 4, none⟩ = some (.int .u64 0) := blk_cell BK6.out 4
     have z6 := blk_frozen BK6.out
     go_wp2
     refine bodyPost_ret (results_cell_row rfl _ _ w.heap.size 112 #[.slice (some ⟨g9, 0, none⟩) u cap9, .int .i64 (p : Int), .int .i64 (q : Int), .int .u64 eph.f0, .int .u64 eph.f1] (0, 0) _ rfl (fin5 _ _ _ _ _ BK6.out) Tryd.underlying112 rfl (by kernel_rfl)) rfl ?_
     refine ⟨.slice (some ⟨g9, 0, none⟩) u cap9, by rw [HQ.out, HP.out]; simp, ?_, bel_grown HB.out (grown5 _ _ _ _ _) (Nat.le_refl _)⟩
     have hF := Kd.R_mono (ok' := fun k_ => w.heap.size ≤ k_) (Kd.R_grown HR.out (grown5 (W := w10) (g := w.heap.size) (.slice (some ⟨g9, 0, none⟩) u cap9) (.int .i64 (p : Int)) (.int .i64 (q : Int)) (.int .u64 eph.f0) (.int .u64 eph.f1)) (fun k_ hk h => hk.2.1 (by injection h))) (fun k_ hk => hk.1)
     rw [HXS.out] at hF
     rw [List.append_assoc] at hF
     exact hF
   | succ k1 =>
    have ht : t < m := by have := HT.out; omega
    have hn0 := HNDL.out t (by omega)
    have hs := HSIB.out t ht
    have hp := HPAR.out t ht
    have hn1 := HNDL.out (t + 1) (by omega)
    rw [hn0] at hs hp
    rw [hn1] at hp
    have b0 : decide (l + (t : Int) < l + (m : Int)) = true := decide_eq_true (by omega)
    have b1 : decide (t < m) = true := decide_eq_true ht
    have b2 : decide ((t : Int) < (m : Int)) = true := decide_eq_true (by omega)
    have HTM := Aside0.mk ht
    have HSB := Aside0.mk hs
    have HPR := Aside0.mk hp
    have c3 : World.cell? _ ⟨g13, 1, none⟩ = some (.int .u64 (nd t).f1) := blk_cell BK13.out 1
    obtain ⟨xs, hxs⟩ : ∃ xs, xs = nd 0 :: (List.range t).map sb := ⟨_, rfl⟩
    rw [← hxs] at HR ⊢
    obtain ⟨p, hp'⟩ : ∃ p, p = xs.length := ⟨_, rfl⟩
    rw [← hp'] at HR ⊢
    have HXS := Aside0.mk hxs
    have HXL := Aside0.mk (show xs.length = 1 + t by rw [hxs]; simp; omega)
    have HPL := Aside0.mk hp'
    clear hn0 hn1 hs hp hxs hp' ht hoks
    go_wp2_with (fail)
    refine (compact_NodeID_Sibling.calls _ _ _ _ _ HSB.out).mono ?_
    rintro ex w6 ⟨rfl, hb⟩
    dsimp only
    replace HR := Aside0.mk (Kd.R_below HR.out hb)
    replace BK6 := Aside0.mk (blk_below BK6.out hb)
    replace BK8 := Aside0.mk (blk_below BK8.out hb)
    replace BK13 := Aside0.mk (blk_below BK13.out hb)
    replace HB := Aside0.mk (bel HG6.out HB.out hb)
    clear hb c1 c2 c3
    obtain ⟨s, hs⟩ : ∃ s, s = sb t := ⟨_, rfl⟩
    rw [← hs]
    have HS := Aside0.mk hs
    clear hs
    go_wp2_with (first
     | (
      (with_reducible refine gate_builtin (b := .append) (xs := #[.tmp 62, .tmp 65]) rfl ?_); at_builtin
      refine Kd.R_append k99 (w0 := w) g6 rfl (.tmp 62) (.tmp 65) 110 99 (.agg #[.int .u64 0, .int .u64 0]) 16 rfl Tryd.underlying110 info99 rfl (by decide) (by omega) (.slice (some ⟨gs, 0, none⟩) p cap) xs s [.int .u64 s.f0, .int .u64 s.f1] (OK3 g6 g8 g13) (fun _ => False) rfl rfl ?aP (fun _ h => h.elim) ?aF ?aO ?aB ?aS ?aL ?_
      (case aP => exact k99_mkM _ _ _ s)
      (case aF => exact OK3.fresh BK6.out BK8.out BK13.out)
      (case aO => exact HR.out)
      (case aB => exact HB.out)
      (case aS => exact belz HG6.out HB.out)
      (case aL => have := HXL.out; have := HTM.out; omega)
      intro v7 w7 hR7 hB7 hg7 hat7
      have n0 := Aside0.mk hR7
      have n6 := Aside0.mk (blk_grown BK6.out hg7 (fun h => (HR.out.1 g6 h.symm).2.1 rfl))
      have n8 := Aside0.mk (blk_grown BK8.out hg7 (fun h => (HR.out.1 g8 h.symm).2.2.1 rfl))
      have n13 := Aside0.mk (blk_grown BK13.out hg7 (fun h => (HR.out.1 g13 h.symm).2.2.2 rfl))
      have nB := Aside0.mk hB7
      clear hR7 hB7 hg7 hat7
      have c1 : w7.cell? ⟨g13, 0, none⟩ = some (.int .u64 (l + (t : Int))) := blk_cell n13.out 0
      have c3 : w7.cell? ⟨g13, 1, none⟩ = some (.int .u64 (nd t).f1) := blk_cell n13.out 1))
    refine (compact_NodeID_Parent.calls _ _ _ _ _ HPR.out).mono ?_
    rintro ex w8 ⟨rfl, hb⟩
    dsimp only
    replace n0 := Aside0.mk (Kd.R_below n0.out hb)
    replace n6 := Aside0.mk (blk_below n6.out hb)
    replace n8 := Aside0.mk (blk_below n8.out hb)
    replace n13 := Aside0.mk (blk_below n13.out hb)
    replace nB := Aside0.mk (bel HG6.out nB.out hb)
    clear hb c1 c3
    have c1 : w8.cell? ⟨g13, 0, none⟩ = some (.int .u64 (l + (t : Int))) := blk_cell n13.out 0
    have c3 : w8.cell? ⟨g13, 1, none⟩ = some (.int .u64 (nd t).f1) := blk_cell n13.out 1
    have z13 := blk_frozen n13.out
    go_wp2
    have hne6 : g6 ≠ g13 := blk_ne n6.out n13.out (by decide)
    have hne8 : g8 ≠ g13 := fun h => by have h1 := n8.out; rw [h] at h1; have h2 := h1.symm.trans n13.out; simp at h2; have := HTM.out; omega
    go_roundg k1
    case measure => omega
    case rel =>
     refine ⟨t + 1, ⟨by have := HT.out; omega⟩, ⟨?_⟩, ⟨blk_far (blk_far n6.out hne6 _) hne6 _⟩, ⟨blk_far (blk_far n8.out hne8 _) hne8 _⟩, ⟨?_⟩, ⟨?_⟩⟩
     ·have h := Kd.R_grown n0.out (grown_trans (grown_set (W := w8) (g := g13) (o := 0) (v := .int .u64 (l + ((t + 1 : Nat) : Int)))) (grown_set (o := 1) (v := .int .u64 (nd (t + 1)).f1))) (fun k_ hk h => hk.2.2.2 (by injection h))
      rw [List.range_succ, List.map_append, List.map_singleton, ← List.cons_append, ← HXS.out, ← HS.out]
      exact h
     ·exact blk_put (cs := #[.int .u64 (l + ((t + 1 : Nat) : Int)), .int .u64 (nd t).f1]) (blk_put (cs := #[.int .u64 (l + (t : Int)), .int .u64 (nd t).f1]) n13.out 0 _ rfl) 1 _ rfl
     ·exact below_setg HG6.out (below_setg HG6.out nB.out G13.out) G13.out
end Go.Proofs.YtielnphmcaecdaaDoor.PAll
namespace Go.Proofs.YtielnphmcaecdaaDoor.PAll
open Go.RowKit Go.Proofs.YtielnphmcaecdaaDoorW.PrintWords Go.Proofs.YtielnphmcaecdaaDoorW.PrintLast Go.Proofs.YtielnphmcaecdaaDoorW.PrintMore
attribute [local go_sem] max2_int min2_int max_two min_two max_three min_three max_four min_four   -- for this text's walks alone
def spec_split.l0 : Nat → Int → Int → Option (Int)
 | 0, _, _ => none
 | k + 1, x0, x3 => if x3 < (IntKind.u64.wrap (x0 - x3)) then (spec_split.l0 k x0 (IntKind.u64.wrap (x3 * 2))) else (some x3)
def spec_split.f (k : Nat) (a0 : Int) : Option (Int) := spec_split.l0 k a0 1
theorem spec_split.calls (k : Nat) (a0 : Int) (r : Int) (w : World) (h : spec_split.f k a0 = some r) :
 Calls Tryd.prog 48 #[.int .u64 a0] w fun e w' => e = .returned (.int .u64 r) ∧ Drawn0 w w' := by
 have H : (spec_split.l0 k a0 1) = some r := h
 clear h
 have H' := Aside0.mk H
 clear H
 go_enter Tryd.func48, Tryd.ntmps48
 go_wp2
 try simp only [Act.put, List.setIfInBounds_toArray, List.set_cons_zero, List.set_cons_succ]
 go_loopg [3] k (fun kq v3 w' => ∃ (x3_1 : Int), v3 = .int .u64 x3_1 ∧ Aside0 (spec_split.l0 kq a0 x3_1 = some r) ∧ Aside0 (kq ≤ k) ∧ Drawn0 w w')
 case atStart => exact ⟨(1), (by first | rfl), H', ⟨Nat.le_refl _⟩, by repeat (first | exact Drawn0.refl _)⟩
 case round =>
  clear H'
  obtain ⟨x3_1, rfl, HA, HK1, ⟨m1, rfl⟩⟩ := hrel
  cases gk with
  | zero => exact absurd HA.out (by simp [spec_split.l0])
  | succ k1 =>
   have H := HA.out
   clear HA
   simp only [spec_split.l0] at H
   by_cases c2 : x3_1 < (IntKind.u64.wrap (a0 - x3_1))
   ·rw [if_pos c2] at H
    have c2b0 : decide (x3_1 < (IntKind.u64.wrap (a0 - x3_1))) = true := decide_eq_true c2
    clear c2
    have H' := Aside0.mk H
    clear H
    go_wp2
    go_roundg k1
    case measure => have := HK1.out; omega
    case rel => exact ⟨(IntKind.u64.wrap (x3_1 * 2)), (by first | rfl), H', ⟨by have := HK1.out; omega⟩, by repeat (first | exact Drawn0.refl _ | apply Drawn0.step)⟩
   ·rw [if_neg c2] at H
    have c2b0 : decide (x3_1 < (IntKind.u64.wrap (a0 - x3_1))) = false := decide_eq_false c2
    clear c2
    obtain rfl := Option.some.inj H
    go_wp2
    go_ret
    exact ⟨by first | rfl, by repeat (first | exact Drawn0.refl _ | apply Drawn0.step)⟩
end Go.Proofs.YtielnphmcaecdaaDoor.PAll
