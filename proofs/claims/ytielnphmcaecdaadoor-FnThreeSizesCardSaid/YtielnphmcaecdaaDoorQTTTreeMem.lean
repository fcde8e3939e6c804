-- Written by a program of this session (wip/tools)
import Derived.Test.YtielnphmcaecdaaDoorProg
import Derived.Below
import Derived.Deep.Draws
import Derived.Deep.AppendLies
import Derived.Maps.AppendAt
import Derived.OwnWalk
import Derived.Laws.BytesArg
import Derived.Laws.MakeOwn
import Derived.Laws.OwnMore
import Derived.Deep.OwnRows
import Derived.Tactics
import Derived.Lib.ConvBytes
import Derived.Laws.Slices
import Derived.WalkKit
import Derived.KernelRfl
import Derived.RowKit3
import Derived.Deep.LoopGhost
import Derived.Deep.QuietTactic
import Derived.BigQuiet
import Derived.WideLaws
import Derived.Deep.DeepCutAuto
import Derived.Deep.CutBlock
import Derived.Deep.RegionHeld3
import Derived.Laws.Rows
import Derived.Lib.AppendStr
import Derived.ArgAppend
import Derived.Laws.IdiomCopy
import Derived.OrdersHeld
import Derived.Laws.BitsLemmas
import Derived.RowKit
import Derived.Test.YtielnphmcaecdaaDoorQTTV0
set_option maxHeartbeats 8000000
set_option maxRecDepth 100000
set_option linter.unusedVariables false
set_option linter.unusedSimpArgs false
namespace Go.Proofs.YtielnphmcaecdaaDoor.PAll
open Go.RowKit Go.Proofs.YtielnphmcaecdaaDoorW.PrintWords Go.Proofs.YtielnphmcaecdaaDoorW.PrintLast Go.Proofs.YtielnphmcaecdaaDoorW.PrintMore
attribute [local go_sem] max2_int min2_int max_two min_two max_three min_three max_four min_four   -- for this text's walks alone
theorem info5 : (Tryd.prog.info? 5).map (fun i => (i.zero, i.size, i.bytes)) = some (some (.int .u8 0), 1, 1) := by kernel_rfl
theorem info27 : (Tryd.prog.info? 27).map (fun i => (i.zero, i.size, i.bytes)) = some (some (.slice none 0 0), 1, 24) := by kernel_rfl
theorem info34 : (Tryd.prog.info? 34).map (fun i => (i.zero, i.size, i.bytes)) = some (some (.agg #[(.int .u64 0), (.int .u64 0), (.slice none 0 0)]), 3, 40) := by kernel_rfl
theorem info49 : (Tryd.prog.info? 49).map (fun i => (i.zero, i.size, i.bytes)) = some (some (.agg #[(.int .u64 0), (.int .u64 0)]), 2, 16) := by kernel_rfl
theorem info51 : (Tryd.prog.info? 51).map (fun i => (i.zero, i.size, i.bytes)) = some (some (.agg #[(.int .u64 0), (.int .u64 0), (.slice none 0 0)]), 3, 40) := by kernel_rfl
theorem info53 : (Tryd.prog.info? 53).map (fun i => (i.zero, i.size, i.bytes)) = some (some (.agg #[(.int .u64 0), (.int .u64 0)]), 2, 16) := by kernel_rfl
theorem info99 : (Tryd.prog.info? 99).map (fun i => (i.zero, i.size, i.bytes)) = some (some (.agg #[(.int .u64 0), (.int .u64 0)]), 2, 16) := by kernel_rfl
def rd_L1 (xs : List (List Int)) (i : Int) : (List Int) := xs.getD i.toNat ([] : List Int)
theorem at_L1 {w : World} {A : Option Addr} {n : Nat} {xs : List (List Int)} (h : Kd.C (Kd.slice 5 (Kd.int .u8)) w A n xs) (i : Int) (h0 : 0 ≤ i) (h1 : i < n) : ∃ ad A0 c0, A = some ad ∧ w.cell? (ad.add i.toNat) = some (.slice A0 (rd_L1 xs i).length c0) ∧ (rd_L1 xs i).length ≤ c0 ∧ (Kd.int .u8).C w A0 (rd_L1 xs i).length (rd_L1 xs i) := by
 obtain ⟨ad, c, e, _, hK, hc0⟩ := Kd.C_get h ([] : List Int) i h0 h1
 have hc : ∀ j u, c[j]? = some u → w.cell? (ad.add (i.toNat * 1 + j)) = some u := hc0
 obtain ⟨A0, c0, rfl, l0, g0⟩ := hK
 exact ⟨ad, A0, c0, e, by have hq := hc 0 _ rfl; rwa [Nat.mul_one, Nat.add_zero] at hq, l0, g0⟩
structure S99 where
 f0 : Int
 f1 : Int
def z99 : S99 := ⟨(0 : Int), (0 : Int)⟩
def k99 : Kd S99 := Kd.iso (Kd.pair (Kd.int .u64) (Kd.int .u64)) (fun x : S99 => (x.f0, x.f1))
theorem k99_open {w : World} {x : S99} {cs : List Value} (h : k99.K w x cs) : cs = [.int .u64 x.f0, .int .u64 x.f1] := by
 obtain ⟨_, _, rfl, rfl, rfl⟩ := h
 exact rfl
theorem k99_openM {w : World} {base : Nat} {ok : Nat → Prop} {x : S99} {cs : List Value} (h : k99.M w base ok x cs) : cs = [.int .u64 x.f0, .int .u64 x.f1] := by
 obtain ⟨_, _, rfl, rfl, rfl⟩ := h
 exact rfl
theorem k99_mkM (w : World) (base : Nat) (ok : Nat → Prop) (x : S99)  : k99.M w base ok x [.int .u64 x.f0, .int .u64 x.f1] := ⟨[.int .u64 x.f0], [.int .u64 x.f1], rfl, rfl, rfl⟩
def rd_T99 (xs : List S99) (i : Int) : S99 := xs.getD i.toNat z99
theorem at_T99 {w : World} {A : Option Addr} {n : Nat} {xs : List S99} (h : Kd.C k99 w A n xs) (i : Int) (h0 : 0 ≤ i) (h1 : i < n) : ∃ ad , A = some ad ∧ w.cell? (ad.add (i.toNat * 2)) = some (.int .u64 (rd_T99 xs i).f0) ∧ w.cell? ⟨(ad.add (i.toNat * 2)).block, (ad.add (i.toNat * 2)).off + 1, none⟩ = some (.int .u64 (rd_T99 xs i).f1) := by
 obtain ⟨ad, c, e, _, hK, hc0⟩ := Kd.C_get h z99 i h0 h1
 have hc : ∀ j u, c[j]? = some u → w.cell? (ad.add (i.toNat * 2 + j)) = some u := hc0
 obtain rfl := k99_open hK
 exact ⟨ad, e, hc 0 _ rfl, by rw [← add_field _ _ 1 (by omega)]; exact hc 1 _ rfl⟩
structure S49 where
 f0 : Int
 f1 : Int
def z49 : S49 := ⟨(0 : Int), (0 : Int)⟩
def k49 : Kd S49 := Kd.iso (Kd.pair (Kd.int .u64) (Kd.int .u64)) (fun x : S49 => (x.f0, x.f1))
theorem k49_open {w : World} {x : S49} {cs : List Value} (h : k49.K w x cs) : cs = [.int .u64 x.f0, .int .u64 x.f1] := by
 obtain ⟨_, _, rfl, rfl, rfl⟩ := h
 exact rfl
theorem k49_mk (w : World) (x : S49)  : k49.K w x [.int .u64 x.f0, .int .u64 x.f1] := ⟨[.int .u64 x.f0], [.int .u64 x.f1], rfl, rfl, rfl⟩
theorem k49_mkM (w : World) (base : Nat) (ok : Nat → Prop) (x : S49)  : k49.M w base ok x [.int .u64 x.f0, .int .u64 x.f1] := ⟨[.int .u64 x.f0], [.int .u64 x.f1], rfl, rfl, rfl⟩
def rd_T49 (xs : List S49) (i : Int) : S49 := xs.getD i.toNat z49
theorem at_T49 {w : World} {A : Option Addr} {n : Nat} {xs : List S49} (h : Kd.C k49 w A n xs) (i : Int) (h0 : 0 ≤ i) (h1 : i < n) : ∃ ad , A = some ad ∧ w.cell? (ad.add (i.toNat * 2)) = some (.int .u64 (rd_T49 xs i).f0) ∧ w.cell? ⟨(ad.add (i.toNat * 2)).block, (ad.add (i.toNat * 2)).off + 1, none⟩ = some (.int .u64 (rd_T49 xs i).f1) := by
 obtain ⟨ad, c, e, _, hK, hc0⟩ := Kd.C_get h z49 i h0 h1
 have hc : ∀ j u, c[j]? = some u → w.cell? (ad.add (i.toNat * 2 + j)) = some u := hc0
 obtain rfl := k49_open hK
 exact ⟨ad, e, hc 0 _ rfl, by rw [← add_field _ _ 1 (by omega)]; exact hc 1 _ rfl⟩
structure S51 where
 f0 : S49
 f1 : (List Int)
def z51 : S51 := ⟨z49, ([] : List Int)⟩
def k51 : Kd S51 := Kd.iso (Kd.pair k49 (Kd.slice 5 (Kd.int .u8))) (fun x : S51 => (x.f0, x.f1))
theorem k51_open {w : World} {x : S51} {cs : List Value} (h : k51.K w x cs) : ∃ A2 c2, cs = [.int .u64 x.f0.f0, .int .u64 x.f0.f1, .slice A2 x.f1.length c2] ∧ x.f1.length ≤ c2 ∧ (Kd.int .u8).C w A2 x.f1.length x.f1 := by
 obtain ⟨_, _, rfl, s0, ⟨A2, c2, rfl, l2, g2⟩⟩ := h
 obtain rfl := k49_open s0
 exact ⟨A2, c2, rfl, l2, g2⟩
theorem k51_mk (w : World) (x : S51) {A2 : Option Addr} {c2 : Nat} (l2 : x.f1.length ≤ c2) (g2 : (Kd.int .u8).C w A2 x.f1.length x.f1) : k51.K w x [.int .u64 x.f0.f0, .int .u64 x.f0.f1, .slice A2 x.f1.length c2] := ⟨[.int .u64 x.f0.f0, .int .u64 x.f0.f1], [.slice A2 x.f1.length c2], rfl, (k49_mk w x.f0 ), ⟨A2, c2, rfl, l2, g2⟩⟩
theorem k51_mkM (w : World) (base : Nat) (ok : Nat → Prop) (x : S51) {v2 : Value} (g2 : (Kd.int .u8).R 5 w base ok v2 x.f1) : k51.M w base ok x [.int .u64 x.f0.f0, .int .u64 x.f0.f1, v2] := ⟨[.int .u64 x.f0.f0, .int .u64 x.f0.f1], [v2], rfl, (k49_mkM w base ok x.f0 ), ⟨v2, rfl, g2⟩⟩
theorem k51_openF {W : World} {ok : Nat → Prop} {x : S51} {cs : List Value} (h : Kd.FK k51 W ok x cs) : ∃ A2 c2, cs = [.int .u64 x.f0.f0, .int .u64 x.f0.f1, .slice A2 x.f1.length c2] ∧ x.f1.length ≤ c2 ∧ Kd.F (Kd.int .u8) W ok A2 x.f1.length x.f1 := by
 obtain ⟨A2, c2, rfl, l2, _⟩ := k51_open (Kd.FK_now h)
 exact ⟨A2, c2, rfl, l2, (fun W' hW => by obtain ⟨A2_, c2_, he, l2_, g2_⟩ := k51_open (h W' hW); injection (Option.some.inj (show some (Value.slice A2 x.f1.length c2) = some (Value.slice A2_ x.f1.length c2_) from congrArg (fun l => l[2]?) he)) with ha_ _ _; rw [ha_]; exact g2_)⟩
theorem k51_mkF (W : World) (ok : Nat → Prop) (x : S51) {A2 : Option Addr} {c2 : Nat} (l2 : x.f1.length ≤ c2) (g2 : Kd.F (Kd.int .u8) W ok A2 x.f1.length x.f1) : Kd.FK k51 W ok x [.int .u64 x.f0.f0, .int .u64 x.f0.f1, .slice A2 x.f1.length c2] := fun W2 hW => k51_mk W2 x l2 (g2 W2 hW)
def rd_T51 (xs : List S51) (i : Int) : S51 := xs.getD i.toNat z51
theorem at_T51 {w : World} {A : Option Addr} {n : Nat} {xs : List S51} (h : Kd.C k51 w A n xs) (i : Int) (h0 : 0 ≤ i) (h1 : i < n) : ∃ ad A2 c2, A = some ad ∧ w.cell? (ad.add (i.toNat * 3)) = some (.int .u64 (rd_T51 xs i).f0.f0) ∧ w.cell? ⟨(ad.add (i.toNat * 3)).block, (ad.add (i.toNat * 3)).off + 1, none⟩ = some (.int .u64 (rd_T51 xs i).f0.f1) ∧ w.cell? ⟨(ad.add (i.toNat * 3)).block, (ad.add (i.toNat * 3)).off + 2, none⟩ = some (.slice A2 (rd_T51 xs i).f1.length c2) ∧ (rd_T51 xs i).f1.length ≤ c2 ∧ (Kd.int .u8).C w A2 (rd_T51 xs i).f1.length (rd_T51 xs i).f1 := by
 obtain ⟨ad, c, e, _, hK, hc0⟩ := Kd.C_get h z51 i h0 h1
 have hc : ∀ j u, c[j]? = some u → w.cell? (ad.add (i.toNat * 3 + j)) = some u := hc0
 obtain ⟨A2, c2, rfl, l2, g2⟩ := k51_open hK
 exact ⟨ad, A2, c2, e, hc 0 _ rfl, by rw [← add_field _ _ 1 (by omega)]; exact hc 1 _ rfl, by rw [← add_field _ _ 2 (by omega)]; exact hc 2 _ rfl, l2, g2⟩
structure S53 where
 f0 : Int
 f1 : Int
def k53 : Kd S53 := Kd.iso (Kd.pair (Kd.int .u64) (Kd.int .u64)) (fun x : S53 => (x.f0, x.f1))
theorem k53_mkM (w : World) (base : Nat) (ok : Nat → Prop) (x : S53)  : k53.M w base ok x [.int .u64 x.f0, .int .u64 x.f1] := ⟨[.int .u64 x.f0], [.int .u64 x.f1], rfl, rfl, rfl⟩
structure S24 where
 f0 : Int
 f1 : Int
 f2 : Int
 f3 : Int
 f4 : Int
 f5 : Int
def k24 : Kd S24 := Kd.iso (Kd.pair (Kd.int .i64) (Kd.pair (Kd.int .i64) (Kd.pair (Kd.int .i64) (Kd.pair (Kd.int .u64) (Kd.pair (Kd.int .u64) (Kd.int .u64)))))) (fun x : S24 => (x.f0, x.f1, x.f2, x.f3, x.f4, x.f5))
theorem k24_open {w : World} {x : S24} {cs : List Value} (h : k24.K w x cs) : cs = [.int .i64 x.f0, .int .i64 x.f1, .int .i64 x.f2, .int .u64 x.f3, .int .u64 x.f4, .int .u64 x.f5] := by
 obtain ⟨_, _, rfl, rfl, ⟨_, _, rfl, rfl, ⟨_, _, rfl, rfl, ⟨_, _, rfl, rfl, ⟨_, _, rfl, rfl, rfl⟩⟩⟩⟩⟩ := h
 exact rfl
structure S34 where
 f0 : Int
 f1 : Int
 f2 : (List (List Int))
def z34 : S34 := ⟨(0 : Int), (0 : Int), ([] : List (List Int))⟩
def k34 : Kd S34 := Kd.iso (Kd.pair (Kd.int .u64) (Kd.pair (Kd.int .u64) (Kd.slice 27 (Kd.slice 5 (Kd.int .u8))))) (fun x : S34 => (x.f0, x.f1, x.f2))
theorem k34_heap : Kd.Heap k34 := Kd.heap_iso _ (Kd.heap_pair (Kd.heap_int .u64) (Kd.heap_pair (Kd.heap_int .u64) (Kd.heap_slice 27 (Kd.heap_slice 5 (Kd.heap_int .u8)))))
theorem k34_open {w : World} {x : S34} {cs : List Value} (h : k34.K w x cs) : ∃ A2 c2, cs = [.int .u64 x.f0, .int .u64 x.f1, .slice A2 x.f2.length c2] ∧ x.f2.length ≤ c2 ∧ (Kd.slice 5 (Kd.int .u8)).C w A2 x.f2.length x.f2 := by
 obtain ⟨_, _, rfl, rfl, ⟨_, _, rfl, rfl, ⟨A2, c2, rfl, l2, g2⟩⟩⟩ := h
 exact ⟨A2, c2, rfl, l2, g2⟩
theorem k34_mk (w : World) (x : S34) {A2 : Option Addr} {c2 : Nat} (l2 : x.f2.length ≤ c2) (g2 : (Kd.slice 5 (Kd.int .u8)).C w A2 x.f2.length x.f2) : k34.K w x [.int .u64 x.f0, .int .u64 x.f1, .slice A2 x.f2.length c2] := ⟨[.int .u64 x.f0], [.int .u64 x.f1, .slice A2 x.f2.length c2], rfl, rfl, ⟨[.int .u64 x.f1], [.slice A2 x.f2.length c2], rfl, rfl, ⟨A2, c2, rfl, l2, g2⟩⟩⟩
theorem k34_openF {W : World} {ok : Nat → Prop} {x : S34} {cs : List Value} (h : Kd.FK k34 W ok x cs) : ∃ A2 c2, cs = [.int .u64 x.f0, .int .u64 x.f1, .slice A2 x.f2.length c2] ∧ x.f2.length ≤ c2 ∧ Kd.F (Kd.slice 5 (Kd.int .u8)) W ok A2 x.f2.length x.f2 := by
 obtain ⟨A2, c2, rfl, l2, _⟩ := k34_open (Kd.FK_now h)
 exact ⟨A2, c2, rfl, l2, (fun W' hW => by obtain ⟨A2_, c2_, he, l2_, g2_⟩ := k34_open (h W' hW); injection (Option.some.inj (show some (Value.slice A2 x.f2.length c2) = some (Value.slice A2_ x.f2.length c2_) from congrArg (fun l => l[2]?) he)) with ha_ _ _; rw [ha_]; exact g2_)⟩
def rd_T34 (xs : List S34) (i : Int) : S34 := xs.getD i.toNat z34
theorem at_T34 {w : World} {A : Option Addr} {n : Nat} {xs : List S34} (h : Kd.C k34 w A n xs) (i : Int) (h0 : 0 ≤ i) (h1 : i < n) : ∃ ad A2 c2, A = some ad ∧ w.cell? (ad.add (i.toNat * 3)) = some (.int .u64 (rd_T34 xs i).f0) ∧ w.cell? ⟨(ad.add (i.toNat * 3)).block, (ad.add (i.toNat * 3)).off + 1, none⟩ = some (.int .u64 (rd_T34 xs i).f1) ∧ w.cell? ⟨(ad.add (i.toNat * 3)).block, (ad.add (i.toNat * 3)).off + 2, none⟩ = some (.slice A2 (rd_T34 xs i).f2.length c2) ∧ (rd_T34 xs i).f2.length ≤ c2 ∧ (Kd.slice 5 (Kd.int .u8)).C w A2 (rd_T34 xs i).f2.length (rd_T34 xs i).f2 := by
 obtain ⟨ad, c, e, _, hK, hc0⟩ := Kd.C_get h z34 i h0 h1
 have hc : ∀ j u, c[j]? = some u → w.cell? (ad.add (i.toNat * 3 + j)) = some u := hc0
 obtain ⟨A2, c2, rfl, l2, g2⟩ := k34_open hK
 exact ⟨ad, A2, c2, e, hc 0 _ rfl, by rw [← add_field _ _ 1 (by omega)]; exact hc 1 _ rfl, by rw [← add_field _ _ 2 (by omega)]; exact hc 2 _ rfl, l2, g2⟩
abbrev SH : Type := Option Addr × Nat × Nat
abbrev shE (s : SH) : Value := .slice s.1 s.2.1 s.2.2
def kSH : Kd SH := Kd.scalar shE (fun _ => rfl)
def by5 (w : World) (k : Nat) : Prop := ∃ cells, w.heap[k]? = some (.cells cells 5 (0, 0))
def Pres5 (w w' : World) : Prop := ∀ k, by5 w k → w'.heap[k]? = w.heap[k]?
theorem Pres5.refl (w : World) : Pres5 w w := fun _ _ => rfl
theorem Pres5.by {w w' : World} (h : Pres5 w w') {k : Nat} (hk : by5 w k) : by5 w' k := by
 obtain ⟨c, hc⟩ := hk
 exact ⟨c, (h k ⟨c, hc⟩).trans hc⟩
theorem Pres5.trans {a b c : World} (h : Pres5 a b) (g : Pres5 b c) : Pres5 a c := fun k hk => (g k (h.by hk)).trans (h k hk)
theorem by5_lt {w : World} {k : Nat} (h : by5 w k) : k < w.heap.size := by
 obtain ⟨c, hc⟩ := h
 exact (Array.getElem?_eq_some_iff.1 hc).1
theorem Pres5.below {w w' : World} (h : Below w.heap.size w w') : Pres5 w w' := fun k hk => h.block k (by5_lt hk)
theorem Pres5.grown {w w' : World} {row : Option Nat} (hg : w.grownBy w' row) (ht : ∀ k, row = some k → ∃ cells t, t ≠ 5 ∧ w.heap[k]? = some (.cells cells t (0, 0))) : Pres5 w w' := fun k hk => by
 refine hg.block k (by5_lt hk) (fun e => ?_)
 obtain ⟨c, t, h5, hc⟩ := ht k e.symm
 obtain ⟨c', hc'⟩ := hk
 rw [hc] at hc'
 injection hc' with hc'
 injection hc' with _ hc'
 exact h5 hc'
theorem Pres5.set {w : World} {g t : Nat} {cells : Array Value} (hb : w.heap[g]? = some (.cells cells t (0, 0))) (h5 : t ≠ 5) (j : Nat) (u : Value) : Pres5 w (w.setCell ⟨g, j, none⟩ u) := fun k hk => by
 refine Below.heap_setCell w ⟨g, j, none⟩ u k ?_
 rintro rfl
 obtain ⟨c', hc'⟩ := hk
 rw [hb] at hc'
 injection hc' with hc'
 injection hc' with _ hc'
 exact h5 hc'
def Txt (base : Nat) (w : World) (s : SH) (b : List Int) : Prop := Kd.R (Kd.int .u8) 5 w base (fun _ => True) (shE s) b
theorem Txt.pres {base : Nat} {w w' : World} {s : SH} {b : List Int} (h : Txt base w s b) (hp : Pres5 w w') : Txt base w' s b :=
 Kd.R_mono (Kd.R_step (Kd.R_tight rfl h) (fun k hk _ => hp k (Kd.R_typed h k hk.symm))) (fun _ _ => trivial)
theorem Txt.read {base : Nat} {w : World} {A : Option Addr} {n c : Nat} {b : List Int} (h : Txt base w (A, n, c) b) : n = b.length ∧ b.length ≤ c ∧ Kd.C (Kd.int .u8) w A b.length b := by
 obtain ⟨h1, h2, h3⟩ := Kd.R_reads' h
 have h1 : n = b.length := h1
 have h2 : n ≤ c := h2
 exact ⟨h1, by omega, h3⟩
theorem Txt.of_R {base B : Nat} {w : World} {ok : Nat → Prop} {s : SH} {b : List Int} (h : Kd.R (Kd.int .u8) 5 w B ok (shE s) b) (hle : base ≤ B) : Txt base w s b := Kd.R_mono (Kd.R_lower h hle) (fun _ _ => trivial)
structure Frm (base g : Nat) (w w' : World) : Prop where
 os : w'.os = w.os
 tape : w'.tape = w.tape
 output : w'.output = w.output
 size : w.heap.size ≤ w'.heap.size
 block : ∀ k, k < base → k ≠ g → w'.heap[k]? = w.heap[k]?
theorem Frm.refl (base g : Nat) (w : World) : Frm base g w w := ⟨rfl, rfl, rfl, Nat.le_refl _, fun _ _ _ => rfl⟩
theorem Frm.trans {base g : Nat} {a b c : World} (h : Frm base g a b) (k : Frm base g b c) : Frm base g a c :=
 ⟨k.os.trans h.os, k.tape.trans h.tape, k.output.trans h.output, Nat.le_trans h.size k.size, fun i hi hg => (k.block i hi hg).trans (h.block i hi hg)⟩
theorem Frm.of {base g : Nat} {a b : World} (h : Below base a b) : Frm base g a b := ⟨h.os, h.tape, h.output, h.size, fun k hk _ => h.block k hk⟩
theorem Frm.set {base g : Nat} {a b : World} (h : Frm base g a b) {q : Nat} (hq : base ≤ q ∨ q = g) (j : Nat) (u : Value) : Frm base g a (b.setCell ⟨q, j, none⟩ u) :=
 h.trans ⟨rfl, rfl, rfl, by rw [World.size_setCell]; exact Nat.le_refl _, fun k hk hg => Below.heap_setCell b ⟨q, j, none⟩ u k (by show k ≠ q; omega)⟩
theorem Frm.below {base g B : Nat} {a b : World} (h : Frm base g a b) (h1 : B ≤ base) (h2 : B ≤ g) : Below B a b := ⟨h.os, h.tape, h.output, h.size, fun k hk => h.block k (by omega) (by omega)⟩
abbrev Rw (w : World) (base : Nat) (v : Value) (rs : List SH) : Prop := kSH.R 27 w base (fun _ => True) v rs
structure TreeAt (w : World) (tb base g : Nat) (hv : Value) (n : Int) (H : SH) (hs : List SH) (rows : List (List SH)) (val : Nat → Nat → List Int) : Prop where
 cell : w.heap[g]? = some (.cells #[hv, .int .u64 n, shE H] 137 (0, 0))
 outer : kSH.R 25 w base (fun _ => True) (shE H) hs
 len : rows.length = hs.length
 row : ∀ (i : Nat) (h : SH), hs[i]? = some h → ∃ rs, rows[i]? = some rs ∧ Rw w base (shE h) rs
 apart : ∀ (i j : Nat) (h h' : SH) (b : Nat), hs[i]? = some h → hs[j]? = some h' → (shE h).ownBlock = some b → (shE h').ownBlock = some b → i = j
 txt : ∀ (i j : Nat) (rs : List SH) (s : SH), rows[i]? = some rs → rs[j]? = some s → Txt tb w s (val i j)
section
variable {w w' W w1 w2 : World} {tb base g : Nat} {hv : Value} {n : Int} {H h h1 s : SH} {hs : List SH} {rows : List (List SH)} {rs : List SH} {val : Nat → Nat → List Int} {ℓ : Nat}
theorem blk_other {w : World} {a b t u : Nat} {c d : Array Value} (ha : w.heap[a]? = some (.cells c t (0, 0))) (hb : w.heap[b]? = some (.cells d u (0, 0))) (h : t ≠ u) : a ≠ b := by
 rintro rfl
 rw [ha] at hb
 injection hb with hb
 injection hb with _ hb
 exact h hb
theorem TreeAt.below (T : TreeAt w tb base g hv n H hs rows val) (hb : Below w.heap.size w w') : TreeAt w' tb base g hv n H hs rows val where
 cell := (hb.block g (Array.getElem?_eq_some_iff.1 T.cell).1).trans T.cell
 outer := Kd.R_below T.outer hb
 len := T.len
 row := fun i h hi => by
  obtain ⟨rs, h1, h2⟩ := T.row i h hi
  exact ⟨rs, h1, Kd.R_below h2 hb⟩
 apart := T.apart
 txt := fun i j rs s h1 h2 => (T.txt i j rs s h1 h2).pres (Pres5.below hb)
theorem TreeAt.put (T : TreeAt W tb base g hv n H hs rows val) {gH : Nat} (eH : (shE H).ownBlock = some gH) (hi : hs[ℓ]? = some h) (hr : rows[ℓ]? = some rs) (hR : Rw w1 base (shE h1) (rs ++ [s])) (hg : W.grownBy w1 (shE h).ownBlock)
 (hat : (shE h1).ownBlock = (shE h).ownBlock ∨ ∃ b, (shE h1).ownBlock = some b ∧ W.heap.size ≤ b) (hb : Below w1.heap.size w1 w2) (hT : Txt tb W s (val ℓ rs.length)) :
 TreeAt (w2.setCell ⟨gH, ℓ, none⟩ (shE h1)) tb base g hv n H (hs.set ℓ h1) (rows.set ℓ (rs ++ [s])) val ∧ Pres5 W (w2.setCell ⟨gH, ℓ, none⟩ (shE h1)) := by
 obtain ⟨rs0, hr0, hRow⟩ := T.row ℓ h hi
 obtain rfl := Option.some.inj (hr0.symm.trans hr)
 have hlt : ℓ < hs.length := (List.getElem?_eq_some_iff.1 hi).1
 have hty := Kd.R_typed hRow
 have htH := Kd.R_typed T.outer gH eH
 -- to w1
 have p1 : Pres5 W w1 := Pres5.grown hg (fun k e => by obtain ⟨c, hc⟩ := hty k e; exact ⟨c, 27, by decide, hc⟩)
 have p2 : Pres5 w1 w2 := Pres5.below hb
 have hgne : ∀ k, (shE h).ownBlock = some k → g ≠ k := fun k e => by obtain ⟨c, hc⟩ := hty k e; exact blk_other T.cell hc (by decide)
 have c1 : w1.heap[g]? = some (.cells #[hv, .int .u64 n, shE H] 137 (0, 0)) := (hg.block g (Array.getElem?_eq_some_iff.1 T.cell).1 (fun e => hgne g e.symm rfl)).trans T.cell
 have o1 : kSH.R 25 w1 base (fun _ => True) (shE H) hs := Kd.R_over' T.outer hty (by decide) hg
 have c2 : w2.heap[g]? = some (.cells #[hv, .int .u64 n, shE H] 137 (0, 0)) := (hb.block g (Array.getElem?_eq_some_iff.1 c1).1).trans c1
 have o2 := Kd.R_below o1 hb
 obtain ⟨cH, hcH⟩ := Kd.R_typed o2 gH eH
 have p3 : Pres5 w2 (w2.setCell ⟨gH, ℓ, none⟩ (shE h1)) := Pres5.set hcH (by decide) ℓ (shE h1)
 refine ⟨⟨?_, ?_, ?_, ?_, ?_, ?_⟩, (p1.trans p2).trans p3⟩
 ·rw [Below.heap_setCell w2 ⟨gH, ℓ, none⟩ (shE h1) g (blk_other c2 hcH (by decide))]; exact c2
 ·obtain ⟨gq, cap, hv', hq1, hq2, hq3⟩ := Kd.R_form o2 (by omega)
  have : gq = gH := by
   rw [hv'] at eH
   exact Option.some.inj eH
  subst this
  rw [hv'] at o2 ⊢
  have := Kd.R_putn (enc := shE) o2 (ℓ : Int) h1
  rw [Int.toNat_natCast] at this
  exact this
 ·rw [List.length_set, List.length_set]; exact T.len
 ·intro i h' hi'
  by_cases e : i = ℓ
  ·subst e
   rw [List.getElem?_set_self hlt] at hi'
   obtain rfl := Option.some.inj hi'
   refine ⟨rs0 ++ [s], List.getElem?_set_self (by rw [T.len]; exact hlt), ?_⟩
   exact Kd.R_set (Kd.R_below hR hb) hcH (by decide) _ _
  ·rw [List.getElem?_set_ne (by omega)] at hi'
   obtain ⟨rs', h2, h3⟩ := T.row i h' hi'
   refine ⟨rs', by rw [List.getElem?_set_ne (by omega)]; exact h2, ?_⟩
   have h4 : Rw w1 base (shE h') rs' := Kd.R_mono (Kd.R_grown (Kd.R_tight rfl h3) hg (fun k hk e2 => e (T.apart i ℓ h' h k hi' hi hk.symm e2.symm))) (fun _ _ => trivial)
   exact Kd.R_set (Kd.R_below h4 hb) hcH (by decide) _ _
 ·intro i j a b k hia hjb ha hb'
  have key : ∀ (m : Nat) (x : SH), (hs.set ℓ h1)[m]? = some x → m ≠ ℓ → hs[m]? = some x := fun m x hx hm => by rwa [List.getElem?_set_ne (by omega)] at hx
  have self : ∀ x, (hs.set ℓ h1)[ℓ]? = some x → x = h1 := fun x hx => by rw [List.getElem?_set_self hlt] at hx; exact (Option.some.inj hx).symm
  have new : ∀ (m : Nat) (x : SH), m ≠ ℓ → hs[m]? = some x → (shE x).ownBlock = some k → (shE h1).ownBlock = some k → False := fun m x hm hx h5 h6 => by
   obtain ⟨rs', _, h7⟩ := T.row m x hx
   have hl := Kd.R_lt h7 k h5
   rcases hat with e | ⟨b0, e, hle⟩
   ·exact hm (T.apart m ℓ x h k hx hi h5 (e ▸ h6))
   ·rw [e] at h6
    have := Option.some.inj h6
    omega
  by_cases e1 : i = ℓ
  ·by_cases e2 : j = ℓ
   ·omega
   ·subst e1
    rw [self a hia] at ha
    exact (new j b e2 (key j b hjb e2) hb' ha).elim
  ·by_cases e2 : j = ℓ
   ·subst e2
    rw [self b hjb] at hb'
    exact (new i a e1 (key i a hia e1) ha hb').elim
   ·exact T.apart i j a b k (key i a hia e1) (key j b hjb e2) ha hb'
 ·intro i j rs' s' h2 h3
  by_cases e : i = ℓ
  ·subst e
   rw [List.getElem?_set_self (by rw [T.len]; exact hlt)] at h2
   obtain rfl := Option.some.inj h2
   by_cases e2 : j < rs0.length
   ·rw [List.getElem?_append_left e2] at h3
    exact (T.txt i j rs0 s' hr h3).pres ((p1.trans p2).trans p3)
   ·have e3 : j = rs0.length := by
     have := (List.getElem?_eq_some_iff.1 h3).1
     rw [List.length_append, List.length_singleton] at this; omega
    subst e3
    rw [List.getElem?_append_right (Nat.le_refl _), Nat.sub_self] at h3
    obtain rfl := Option.some.inj h3
    exact hT.pres ((p1.trans p2).trans p3)
  ·rw [List.getElem?_set_ne (by omega)] at h2
   exact (T.txt i j rs' s' h2 h3).pres ((p1.trans p2).trans p3)
theorem TreeAt.size (T : TreeAt W tb base g hv n H hs rows val) (m : Int) : TreeAt (W.setCell ⟨g, 1, none⟩ (.int .u64 m)) tb base g hv m H hs rows val ∧ Pres5 W (W.setCell ⟨g, 1, none⟩ (.int .u64 m)) := by
 have p3 : Pres5 W (W.setCell ⟨g, 1, none⟩ (.int .u64 m)) := Pres5.set T.cell (by decide) 1 _
 refine ⟨⟨?_, ?_, T.len, ?_, T.apart, ?_⟩, p3⟩
 ·rw [blk_set T.cell]; rfl
 ·exact Kd.R_set T.outer T.cell (by decide) _ _
 ·intro i h' hi'
  obtain ⟨rs', h2, h3⟩ := T.row i h' hi'
  exact ⟨rs', h2, Kd.R_set h3 T.cell (by decide) _ _⟩
 ·exact fun i j rs' s' h2 h3 => (T.txt i j rs' s' h2 h3).pres p3
end
abbrev toyV (a0 a1 a2 a3 a4 a5 : Int) : Value := .agg #[.int .i64 a0, .int .i64 a1, .int .i64 a2, .int .u64 a3, .int .u64 a4, .int .u64 a5]
theorem kSH_cell {e : Nat} {W : World} {base g n cap : Nat} {ok : Nat → Prop} {xs : List SH} {x : SH} {i : Nat} (h : kSH.R e W base ok (.slice (some ⟨g, 0, none⟩) n cap) xs) (hi : xs[i]? = some x) : W.cell? ⟨g, i, none⟩ = some (shE x) ∧ W.frozen? ⟨g, i, none⟩ = false := by
 have hl := (List.getElem?_eq_some_iff.1 hi).1
 have hn := (Kd.R_reads' h).1
 have := Kd.R_celln (enc := shE) x h (i : Int) (by omega) (by omega)
 rw [Int.toNat_natCast] at this
 have e : rdOf x xs (i : Int) = x := by
  unfold rdOf
  rw [Int.toNat_natCast, List.getD_eq_getElem?_getD, hi]; rfl
 rw [e] at this
 exact this
theorem kSH_form {e : Nat} {W : World} {base : Nat} {ok : Nat → Prop} {s : SH} {xs : List SH} (h : kSH.R e W base ok (shE s) xs) (h0 : 0 < xs.length) : ∃ g cap, s = (some ⟨g, 0, none⟩, xs.length, cap) ∧ base ≤ g := by
 obtain ⟨g, cap, hv, hq, _⟩ := Kd.R_form h h0
 obtain ⟨A, n, c⟩ := s
 have hv : Value.slice A n c = .slice (some ⟨g, 0, none⟩) xs.length cap := hv
 injection hv with h1 h2 h3
 subst h1 h2 h3
 exact ⟨g, _, rfl, hq⟩
theorem kSH_val {e : Nat} {W : World} {base : Nat} {ok : Nat → Prop} {v : Value} {xs : List SH} (h : kSH.R e W base ok v xs) : ∃ s, v = shE s := by
 obtain ⟨A, c, rfl⟩ := Kd.R_slice h
 exact ⟨(A, xs.length, c), rfl⟩
theorem kSH_val' {W : World} {base : Nat} {ok : Nat → Prop} {v : Value} {b : List Int} (h : Kd.R (Kd.int .u8) 5 W base ok v b) : ∃ s, v = shE s := by
 obtain ⟨A, c, rfl⟩ := Kd.R_slice h
 exact ⟨(A, b.length, c), rfl⟩
theorem Txt.at {base : Nat} {w : World} {s : SH} {b b' : List Int} (h : Txt base w s b) (e : b' = b) : Txt base w s b' := by subst e; exact h
theorem TreeAt.c0 {w : World} {tb base g : Nat} {hv : Value} {n : Int} {H : SH} {hs : List SH} {rows : List (List SH)} {val : Nat → Nat → List Int} (T : TreeAt w tb base g hv n H hs rows val) : w.cell? ⟨g, 0, none⟩ = some hv ∧ w.cell? ⟨g, 1, none⟩ = some (.int .u64 n) ∧ w.cell? ⟨g, 2, none⟩ = some (shE H) :=
 ⟨blk_cell T.cell 0, blk_cell T.cell 1, blk_cell T.cell 2⟩
theorem methHC (a0 a1 a2 a3 a4 a5 : Int) (w : World) : (method 302 82 (.agg #[.int .i64 a0, .int .i64 a1, .int .i64 a2, .int .u64 a3, .int .u64 a4, .int .u64 a5]) "HashChildren").run Tryd.prog w = .ok (50, .agg #[.int .i64 a0, .int .i64 a1, .int .i64 a2, .int .u64 a3, .int .u64 a4, .int .u64 a5]) w := by kernel_rfl
theorem rows_SH {w : World} {B : Nat} {v : Value} {xs : List (List Int)} (h : Kd.R (Kd.slice 5 (Kd.int .u8)) 27 w B (fun _ => True) v xs) : ∃ ss : List SH, ss.length = xs.length ∧ Rw w B v ss ∧ ∀ (j : Nat) (s : SH) (b : List Int), ss[j]? = some s → xs[j]? = some b → Txt B w s b := by
 obtain ⟨_, inner, ho, hl, hr⟩ := h
 rw [show (Kd.slice 5 (Kd.int .u8)).sz = 1 from rfl] at hl hr ho
 rw [Nat.mul_one] at hl
 have hat : ∀ (j : Nat) (b : List Int), xs[j]? = some b → ∃ s : SH, inner[j]? = some (shE s) ∧ Txt B w s b := by
  intro j b hj
  obtain ⟨v', h1, h2⟩ := hr j b hj
  have hlt : j < inner.length := by have := (List.getElem?_eq_some_iff.1 hj).1; omega
  rw [Nat.mul_one, List.drop_eq_getElem_cons hlt, List.take_succ_cons, List.take_zero] at h1
  have h1 : inner[j] = v' := List.head_eq_of_cons_eq h1
  obtain ⟨A, c, e⟩ := Kd.R_slice h2
  subst e
  exact ⟨(A, b.length, c), by rw [List.getElem?_eq_getElem hlt, h1], Kd.R_mono h2 (fun _ _ => trivial)⟩
 have hex : ∀ m, m ≤ xs.length → ∃ ss : List SH, ss.length = m ∧ ∀ (j : Nat) (s : SH), ss[j]? = some s → inner[j]? = some (shE s) ∧ ∀ b, xs[j]? = some b → Txt B w s b := by
  intro m
  induction m with
  | zero => exact fun _ => ⟨[], rfl, fun j s h => by simp at h⟩
  | succ m ih =>
   intro hm
   obtain ⟨ss, h1, h2⟩ := ih (by omega)
   obtain ⟨s, h3, h4⟩ := hat m _ (List.getElem?_eq_getElem (by omega : m < xs.length))
   refine ⟨ss ++ [s], by simp [h1], fun j t ht => ?_⟩
   by_cases e : j < m
   ·rw [List.getElem?_append_left (by omega)] at ht
    exact h2 j t ht
   ·have e2 : j = m := by
     have := (List.getElem?_eq_some_iff.1 ht).1
     rw [List.length_append, List.length_singleton] at this; omega
    subst e2
    rw [List.getElem?_append_right (by omega), h1, Nat.sub_self] at ht
    obtain rfl := Option.some.inj ht
    exact ⟨h3, fun b hb => by rw [List.getElem?_eq_getElem (by omega : j < xs.length)] at hb; obtain rfl := Option.some.inj hb; exact h4⟩
 obtain ⟨ss, h1, h2⟩ := hex xs.length (Nat.le_refl _)
 have hin : inner = encs shE ss := List.ext_getElem? (fun j => by
  by_cases e : j < ss.length
  ·rw [(h2 j _ (List.getElem?_eq_getElem e)).1]; simp [encs, e]
  ·rw [List.getElem?_eq_none (by omega), List.getElem?_eq_none (by simp [encs]; omega)])
 refine ⟨ss, h1, ?_, fun j s b hs hb => (h2 j s hs).2 b hb⟩
 rw [hin, ← h1] at ho
 exact Kd.R_of_own (enc := shE) ho (fun _ _ => trivial)
end Go.Proofs.YtielnphmcaecdaaDoor.PAll
