-- Written by a program of this session (wip/tools)
import Derived.Test.YtielnphmcaecdaaDoorProg
import Derived.Below
import Derived.Deep.Draws
import Derived.Deep.AppendLies
import Derived.Maps.AppendAt
import Derived.OwnWalk
import Derived.Laws.BytesArg
import Derived.Laws.MakeOwn
import Derived.Laws.OwnMore
import Derived.Deep.OwnRows
import Derived.Tactics
import Derived.Lib.ConvBytes
import Derived.Laws.Slices
import Derived.WalkKit
import Derived.KernelRfl
import Derived.RowKit3
import Derived.Deep.LoopGhost
import Derived.Deep.QuietTactic
import Derived.BigQuiet
import Derived.WideLaws
import Derived.Deep.DeepCutAuto
import Derived.Deep.CutBlock
import Derived.Deep.RegionHeld3
import Derived.Laws.Rows
import Derived.Lib.AppendStr
import Derived.ArgAppend
import Derived.Laws.IdiomCopy
import Derived.OrdersHeld
import Derived.Laws.BitsLemmas
import Derived.RowKit
import Derived.Test.YtielnphmcaecdaaDoorWWords
import Derived.Test.YtielnphmcaecdaaDoorWLast
import Derived.Test.YtielnphmcaecdaaDoorWTab
import Derived.Test.YtielnphmcaecdaaDoorWFour
import Derived.Test.YtielnphmcaecdaaDoorWQPut
import Derived.Test.YtielnphmcaecdaaDoorWApart
import Derived.Test.YtielnphmcaecdaaDoorWArr
import Derived.Test.YtielnphmcaecdaaDoorWZeros
import Derived.Test.YtielnphmcaecdaaDoorWFoot
import Derived.Test.YtielnphmcaecdaaDoorWKept
import Derived.Test.YtielnphmcaecdaaDoorWShare
import Derived.Test.YtielnphmcaecdaaDoorWN
import Derived.Test.YtielnphmcaecdaaDoorWFootNe
import Derived.Test.YtielnphmcaecdaaDoorWAt
import Derived.Test.YtielnphmcaecdaaDoorWEqStruct
import Derived.Test.YtielnphmcaecdaaDoorWRepsOne
import Derived.Test.YtielnphmcaecdaaDoorWInv
import Derived.Test.YtielnphmcaecdaaDoorWInvWords
import Derived.Test.YtielnphmcaecdaaDoorWGuard
import Derived.Test.YtielnphmcaecdaaDoorWNEv
import Derived.Test.YtielnphmcaecdaaDoorWMore
namespace Go.Proofs.YtielnphmcaecdaaDoor.PAll
open Go.RowKit Go.Proofs.YtielnphmcaecdaaDoorW.PrintWords Go.Proofs.YtielnphmcaecdaaDoorW.PrintLast Go.Proofs.YtielnphmcaecdaaDoorW.PrintMore
attribute [local go_sem] max2_int min2_int max_two min_two max_three min_three max_four min_four   -- for this text's walks alone
set_option linter.unusedVariables false
set_option linter.unusedSimpArgs false



def errW : Option Int → Value
  | none => .nilIface
  | some c => .iface 0 (.int .i64 c)
theorem errW_none : errW none = .nilIface := rfl
theorem errW_some (c : Int) : errW (some c) = .iface 0 (.int .i64 c) := rfl

theorem info5 : (Tryd.prog.info? 5).map (fun i => (i.zero, i.size, i.bytes)) = some (some (.int .u8 0), 1, 1) := by kernel_rfl
theorem info27 : (Tryd.prog.info? 27).map (fun i => (i.zero, i.size, i.bytes)) = some (some (.slice none 0 0), 1, 24) := by kernel_rfl
theorem info34 : (Tryd.prog.info? 34).map (fun i => (i.zero, i.size, i.bytes)) = some (some (.agg #[(.int .u64 0), (.int .u64 0), (.slice none 0 0)]), 3, 40) := by kernel_rfl
theorem info49 : (Tryd.prog.info? 49).map (fun i => (i.zero, i.size, i.bytes)) = some (some (.agg #[(.int .u64 0), (.int .u64 0)]), 2, 16) := by kernel_rfl
theorem info51 : (Tryd.prog.info? 51).map (fun i => (i.zero, i.size, i.bytes)) = some (some (.agg #[(.int .u64 0), (.int .u64 0), (.slice none 0 0)]), 3, 40) := by kernel_rfl
theorem info53 : (Tryd.prog.info? 53).map (fun i => (i.zero, i.size, i.bytes)) = some (some (.agg #[(.int .u64 0), (.int .u64 0)]), 2, 16) := by kernel_rfl
theorem info99 : (Tryd.prog.info? 99).map (fun i => (i.zero, i.size, i.bytes)) = some (some (.agg #[(.int .u64 0), (.int .u64 0)]), 2, 16) := by kernel_rfl
-- the values' own types
def rd_L1 (xs : List (List Int)) (i : Int) : (List Int) := xs.getD i.toNat ([] : List Int)
theorem at_L1 {w : World} {A : Option Addr} {n : Nat} {xs : List (List Int)} (h : Kd.C (Kd.slice 5 (Kd.int .u8)) w A n xs) (i : Int) (h0 : 0 ≤ i) (h1 : i < n) : ∃ ad A0 c0, A = some ad ∧ w.cell? (ad.add i.toNat) = some (.slice A0 (rd_L1 xs i).length c0) ∧ (rd_L1 xs i).length ≤ c0 ∧ (Kd.int .u8).C w A0 (rd_L1 xs i).length (rd_L1 xs i) := by
  obtain ⟨ad, c, e, _, hK, hc0⟩ := Kd.C_get h ([] : List Int) i h0 h1
  have hc : ∀ j u, c[j]? = some u → w.cell? (ad.add (i.toNat * 1 + j)) = some u := hc0
  obtain ⟨A0, c0, rfl, l0, g0⟩ := hK
  exact ⟨ad, A0, c0, e, by have hq := hc 0 _ rfl; rwa [Nat.mul_one, Nat.add_zero] at hq, l0, g0⟩

/-! #### struct type 99 -/
structure S99 where
  f0 : Int
  f1 : Int
def z99 : S99 := ⟨(0 : Int), (0 : Int)⟩
def k99 : Kd S99 := Kd.iso (Kd.pair (Kd.int .u64) (Kd.int .u64)) (fun x : S99 => (x.f0, x.f1))
theorem k99_heap : Kd.Heap k99 := Kd.heap_iso _ (Kd.heap_pair (Kd.heap_int .u64) (Kd.heap_int .u64))
theorem k99_open {w : World} {x : S99} {cs : List Value} (h : k99.K w x cs) : cs = [.int .u64 x.f0, .int .u64 x.f1] := by
  obtain ⟨_, _, rfl, rfl, rfl⟩ := h
  exact rfl
theorem k99_openM {w : World} {base : Nat} {ok : Nat → Prop} {x : S99} {cs : List Value} (h : k99.M w base ok x cs) : cs = [.int .u64 x.f0, .int .u64 x.f1] := by
  obtain ⟨_, _, rfl, rfl, rfl⟩ := h
  exact rfl
theorem k99_mk (w : World) (x : S99)  : k99.K w x [.int .u64 x.f0, .int .u64 x.f1] := ⟨[.int .u64 x.f0], [.int .u64 x.f1], rfl, rfl, rfl⟩
theorem k99_mkM (w : World) (base : Nat) (ok : Nat → Prop) (x : S99)  : k99.M w base ok x [.int .u64 x.f0, .int .u64 x.f1] := ⟨[.int .u64 x.f0], [.int .u64 x.f1], rfl, rfl, rfl⟩
theorem k99_mkF (W : World) (ok : Nat → Prop) (x : S99) : Kd.FK k99 W ok x [.int .u64 x.f0, .int .u64 x.f1] := fun W2 _ => k99_mk W2 x
def rd_T99 (xs : List S99) (i : Int) : S99 := xs.getD i.toNat z99
theorem at_T99 {w : World} {A : Option Addr} {n : Nat} {xs : List S99} (h : Kd.C k99 w A n xs) (i : Int) (h0 : 0 ≤ i) (h1 : i < n) : ∃ ad , A = some ad ∧ w.cell? (ad.add (i.toNat * 2)) = some (.int .u64 (rd_T99 xs i).f0) ∧ w.cell? ⟨(ad.add (i.toNat * 2)).block, (ad.add (i.toNat * 2)).off + 1, none⟩ = some (.int .u64 (rd_T99 xs i).f1) := by
  obtain ⟨ad, c, e, _, hK, hc0⟩ := Kd.C_get h z99 i h0 h1
  have hc : ∀ j u, c[j]? = some u → w.cell? (ad.add (i.toNat * 2 + j)) = some u := hc0
  obtain rfl := k99_open hK
  exact ⟨ad, e, hc 0 _ rfl, by rw [← add_field _ _ 1 (by omega)]; exact hc 1 _ rfl⟩

/-! #### struct type 49 -/
structure S49 where
  f0 : Int
  f1 : Int
def z49 : S49 := ⟨(0 : Int), (0 : Int)⟩
def k49 : Kd S49 := Kd.iso (Kd.pair (Kd.int .u64) (Kd.int .u64)) (fun x : S49 => (x.f0, x.f1))
theorem k49_heap : Kd.Heap k49 := Kd.heap_iso _ (Kd.heap_pair (Kd.heap_int .u64) (Kd.heap_int .u64))
theorem k49_open {w : World} {x : S49} {cs : List Value} (h : k49.K w x cs) : cs = [.int .u64 x.f0, .int .u64 x.f1] := by
  obtain ⟨_, _, rfl, rfl, rfl⟩ := h
  exact rfl
theorem k49_openM {w : World} {base : Nat} {ok : Nat → Prop} {x : S49} {cs : List Value} (h : k49.M w base ok x cs) : cs = [.int .u64 x.f0, .int .u64 x.f1] := by
  obtain ⟨_, _, rfl, rfl, rfl⟩ := h
  exact rfl
theorem k49_mk (w : World) (x : S49)  : k49.K w x [.int .u64 x.f0, .int .u64 x.f1] := ⟨[.int .u64 x.f0], [.int .u64 x.f1], rfl, rfl, rfl⟩
theorem k49_mkM (w : World) (base : Nat) (ok : Nat → Prop) (x : S49)  : k49.M w base ok x [.int .u64 x.f0, .int .u64 x.f1] := ⟨[.int .u64 x.f0], [.int .u64 x.f1], rfl, rfl, rfl⟩
theorem k49_mkF (W : World) (ok : Nat → Prop) (x : S49) : Kd.FK k49 W ok x [.int .u64 x.f0, .int .u64 x.f1] := fun W2 _ => k49_mk W2 x
def rd_T49 (xs : List S49) (i : Int) : S49 := xs.getD i.toNat z49
theorem at_T49 {w : World} {A : Option Addr} {n : Nat} {xs : List S49} (h : Kd.C k49 w A n xs) (i : Int) (h0 : 0 ≤ i) (h1 : i < n) : ∃ ad , A = some ad ∧ w.cell? (ad.add (i.toNat * 2)) = some (.int .u64 (rd_T49 xs i).f0) ∧ w.cell? ⟨(ad.add (i.toNat * 2)).block, (ad.add (i.toNat * 2)).off + 1, none⟩ = some (.int .u64 (rd_T49 xs i).f1) := by
  obtain ⟨ad, c, e, _, hK, hc0⟩ := Kd.C_get h z49 i h0 h1
  have hc : ∀ j u, c[j]? = some u → w.cell? (ad.add (i.toNat * 2 + j)) = some u := hc0
  obtain rfl := k49_open hK
  exact ⟨ad, e, hc 0 _ rfl, by rw [← add_field _ _ 1 (by omega)]; exact hc 1 _ rfl⟩

def rd_L6 (xs : List (List (List Int))) (i : Int) : (List (List Int)) := xs.getD i.toNat ([] : List (List Int))
theorem at_L6 {w : World} {A : Option Addr} {n : Nat} {xs : List (List (List Int))} (h : Kd.C (Kd.slice 27 (Kd.slice 5 (Kd.int .u8))) w A n xs) (i : Int) (h0 : 0 ≤ i) (h1 : i < n) : ∃ ad A0 c0, A = some ad ∧ w.cell? (ad.add i.toNat) = some (.slice A0 (rd_L6 xs i).length c0) ∧ (rd_L6 xs i).length ≤ c0 ∧ (Kd.slice 5 (Kd.int .u8)).C w A0 (rd_L6 xs i).length (rd_L6 xs i) := by
  obtain ⟨ad, c, e, _, hK, hc0⟩ := Kd.C_get h ([] : List (List Int)) i h0 h1
  have hc : ∀ j u, c[j]? = some u → w.cell? (ad.add (i.toNat * 1 + j)) = some u := hc0
  obtain ⟨A0, c0, rfl, l0, g0⟩ := hK
  exact ⟨ad, A0, c0, e, by have hq := hc 0 _ rfl; rwa [Nat.mul_one, Nat.add_zero] at hq, l0, g0⟩

/-! #### struct type 51 -/
structure S51 where
  f0 : S49
  f1 : (List Int)
def z51 : S51 := ⟨z49, ([] : List Int)⟩
def k51 : Kd S51 := Kd.iso (Kd.pair k49 (Kd.slice 5 (Kd.int .u8))) (fun x : S51 => (x.f0, x.f1))
theorem k51_heap : Kd.Heap k51 := Kd.heap_iso _ (Kd.heap_pair k49_heap (Kd.heap_slice 5 (Kd.heap_int .u8)))
theorem k51_open {w : World} {x : S51} {cs : List Value} (h : k51.K w x cs) : ∃ A2 c2, cs = [.int .u64 x.f0.f0, .int .u64 x.f0.f1, .slice A2 x.f1.length c2] ∧ x.f1.length ≤ c2 ∧ (Kd.int .u8).C w A2 x.f1.length x.f1 := by
  obtain ⟨_, _, rfl, s0, ⟨A2, c2, rfl, l2, g2⟩⟩ := h
  obtain rfl := k49_open s0
  exact ⟨A2, c2, rfl, l2, g2⟩
theorem k51_openM {w : World} {base : Nat} {ok : Nat → Prop} {x : S51} {cs : List Value} (h : k51.M w base ok x cs) : ∃ v2, cs = [.int .u64 x.f0.f0, .int .u64 x.f0.f1, v2] ∧ (Kd.int .u8).R 5 w base ok v2 x.f1 := by
  obtain ⟨_, _, rfl, s0, ⟨v2, rfl, g2⟩⟩ := h
  obtain rfl := k49_openM s0
  exact ⟨v2, rfl, g2⟩
theorem k51_mk (w : World) (x : S51) {A2 : Option Addr} {c2 : Nat} (l2 : x.f1.length ≤ c2) (g2 : (Kd.int .u8).C w A2 x.f1.length x.f1) : k51.K w x [.int .u64 x.f0.f0, .int .u64 x.f0.f1, .slice A2 x.f1.length c2] := ⟨[.int .u64 x.f0.f0, .int .u64 x.f0.f1], [.slice A2 x.f1.length c2], rfl, (k49_mk w x.f0 ), ⟨A2, c2, rfl, l2, g2⟩⟩
theorem k51_mkM (w : World) (base : Nat) (ok : Nat → Prop) (x : S51) {v2 : Value} (g2 : (Kd.int .u8).R 5 w base ok v2 x.f1) : k51.M w base ok x [.int .u64 x.f0.f0, .int .u64 x.f0.f1, v2] := ⟨[.int .u64 x.f0.f0, .int .u64 x.f0.f1], [v2], rfl, (k49_mkM w base ok x.f0 ), ⟨v2, rfl, g2⟩⟩
theorem k51_openF {W : World} {ok : Nat → Prop} {x : S51} {cs : List Value} (h : Kd.FK k51 W ok x cs) : ∃ A2 c2, cs = [.int .u64 x.f0.f0, .int .u64 x.f0.f1, .slice A2 x.f1.length c2] ∧ x.f1.length ≤ c2 ∧ Kd.F (Kd.int .u8) W ok A2 x.f1.length x.f1 := by
  obtain ⟨A2, c2, rfl, l2, _⟩ := k51_open (Kd.FK_now h)
  exact ⟨A2, c2, rfl, l2, (fun W' hW => by obtain ⟨A2_, c2_, he, l2_, g2_⟩ := k51_open (h W' hW); injection (Option.some.inj (show some (Value.slice A2 x.f1.length c2) = some (Value.slice A2_ x.f1.length c2_) from congrArg (fun l => l[2]?) he)) with ha_ _ _; rw [ha_]; exact g2_)⟩
theorem k51_mkF (W : World) (ok : Nat → Prop) (x : S51) {A2 : Option Addr} {c2 : Nat} (l2 : x.f1.length ≤ c2) (g2 : Kd.F (Kd.int .u8) W ok A2 x.f1.length x.f1) : Kd.FK k51 W ok x [.int .u64 x.f0.f0, .int .u64 x.f0.f1, .slice A2 x.f1.length c2] := fun W2 hW => k51_mk W2 x l2 (g2 W2 hW)
def rd_T51 (xs : List S51) (i : Int) : S51 := xs.getD i.toNat z51
theorem at_T51 {w : World} {A : Option Addr} {n : Nat} {xs : List S51} (h : Kd.C k51 w A n xs) (i : Int) (h0 : 0 ≤ i) (h1 : i < n) : ∃ ad A2 c2, A = some ad ∧ w.cell? (ad.add (i.toNat * 3)) = some (.int .u64 (rd_T51 xs i).f0.f0) ∧ w.cell? ⟨(ad.add (i.toNat * 3)).block, (ad.add (i.toNat * 3)).off + 1, none⟩ = some (.int .u64 (rd_T51 xs i).f0.f1) ∧ w.cell? ⟨(ad.add (i.toNat * 3)).block, (ad.add (i.toNat * 3)).off + 2, none⟩ = some (.slice A2 (rd_T51 xs i).f1.length c2) ∧ (rd_T51 xs i).f1.length ≤ c2 ∧ (Kd.int .u8).C w A2 (rd_T51 xs i).f1.length (rd_T51 xs i).f1 := by
  obtain ⟨ad, c, e, _, hK, hc0⟩ := Kd.C_get h z51 i h0 h1
  have hc : ∀ j u, c[j]? = some u → w.cell? (ad.add (i.toNat * 3 + j)) = some u := hc0
  obtain ⟨A2, c2, rfl, l2, g2⟩ := k51_open hK
  exact ⟨ad, A2, c2, e, hc 0 _ rfl, by rw [← add_field _ _ 1 (by omega)]; exact hc 1 _ rfl, by rw [← add_field _ _ 2 (by omega)]; exact hc 2 _ rfl, l2, g2⟩

/-! #### struct type 53 -/
structure S53 where
  f0 : Int
  f1 : Int
def z53 : S53 := ⟨(0 : Int), (0 : Int)⟩
def k53 : Kd S53 := Kd.iso (Kd.pair (Kd.int .u64) (Kd.int .u64)) (fun x : S53 => (x.f0, x.f1))
theorem k53_heap : Kd.Heap k53 := Kd.heap_iso _ (Kd.heap_pair (Kd.heap_int .u64) (Kd.heap_int .u64))
theorem k53_open {w : World} {x : S53} {cs : List Value} (h : k53.K w x cs) : cs = [.int .u64 x.f0, .int .u64 x.f1] := by
  obtain ⟨_, _, rfl, rfl, rfl⟩ := h
  exact rfl
theorem k53_openM {w : World} {base : Nat} {ok : Nat → Prop} {x : S53} {cs : List Value} (h : k53.M w base ok x cs) : cs = [.int .u64 x.f0, .int .u64 x.f1] := by
  obtain ⟨_, _, rfl, rfl, rfl⟩ := h
  exact rfl
theorem k53_mk (w : World) (x : S53)  : k53.K w x [.int .u64 x.f0, .int .u64 x.f1] := ⟨[.int .u64 x.f0], [.int .u64 x.f1], rfl, rfl, rfl⟩
theorem k53_mkM (w : World) (base : Nat) (ok : Nat → Prop) (x : S53)  : k53.M w base ok x [.int .u64 x.f0, .int .u64 x.f1] := ⟨[.int .u64 x.f0], [.int .u64 x.f1], rfl, rfl, rfl⟩
theorem k53_mkF (W : World) (ok : Nat → Prop) (x : S53) : Kd.FK k53 W ok x [.int .u64 x.f0, .int .u64 x.f1] := fun W2 _ => k53_mk W2 x
def rd_T53 (xs : List S53) (i : Int) : S53 := xs.getD i.toNat z53
theorem at_T53 {w : World} {A : Option Addr} {n : Nat} {xs : List S53} (h : Kd.C k53 w A n xs) (i : Int) (h0 : 0 ≤ i) (h1 : i < n) : ∃ ad , A = some ad ∧ w.cell? (ad.add (i.toNat * 2)) = some (.int .u64 (rd_T53 xs i).f0) ∧ w.cell? ⟨(ad.add (i.toNat * 2)).block, (ad.add (i.toNat * 2)).off + 1, none⟩ = some (.int .u64 (rd_T53 xs i).f1) := by
  obtain ⟨ad, c, e, _, hK, hc0⟩ := Kd.C_get h z53 i h0 h1
  have hc : ∀ j u, c[j]? = some u → w.cell? (ad.add (i.toNat * 2 + j)) = some u := hc0
  obtain rfl := k53_open hK
  exact ⟨ad, e, hc 0 _ rfl, by rw [← add_field _ _ 1 (by omega)]; exact hc 1 _ rfl⟩

/-! #### struct type 24 -/
structure S24 where
  f0 : Int
  f1 : Int
  f2 : Int
  f3 : Int
  f4 : Int
  f5 : Int
def z24 : S24 := ⟨(0 : Int), (0 : Int), (0 : Int), (0 : Int), (0 : Int), (0 : Int)⟩
def k24 : Kd S24 := Kd.iso (Kd.pair (Kd.int .i64) (Kd.pair (Kd.int .i64) (Kd.pair (Kd.int .i64) (Kd.pair (Kd.int .u64) (Kd.pair (Kd.int .u64) (Kd.int .u64)))))) (fun x : S24 => (x.f0, x.f1, x.f2, x.f3, x.f4, x.f5))
theorem k24_heap : Kd.Heap k24 := Kd.heap_iso _ (Kd.heap_pair (Kd.heap_int .i64) (Kd.heap_pair (Kd.heap_int .i64) (Kd.heap_pair (Kd.heap_int .i64) (Kd.heap_pair (Kd.heap_int .u64) (Kd.heap_pair (Kd.heap_int .u64) (Kd.heap_int .u64))))))
theorem k24_open {w : World} {x : S24} {cs : List Value} (h : k24.K w x cs) : cs = [.int .i64 x.f0, .int .i64 x.f1, .int .i64 x.f2, .int .u64 x.f3, .int .u64 x.f4, .int .u64 x.f5] := by
  obtain ⟨_, _, rfl, rfl, ⟨_, _, rfl, rfl, ⟨_, _, rfl, rfl, ⟨_, _, rfl, rfl, ⟨_, _, rfl, rfl, rfl⟩⟩⟩⟩⟩ := h
  exact rfl
theorem k24_openM {w : World} {base : Nat} {ok : Nat → Prop} {x : S24} {cs : List Value} (h : k24.M w base ok x cs) : cs = [.int .i64 x.f0, .int .i64 x.f1, .int .i64 x.f2, .int .u64 x.f3, .int .u64 x.f4, .int .u64 x.f5] := by
  obtain ⟨_, _, rfl, rfl, ⟨_, _, rfl, rfl, ⟨_, _, rfl, rfl, ⟨_, _, rfl, rfl, ⟨_, _, rfl, rfl, rfl⟩⟩⟩⟩⟩ := h
  exact rfl
theorem k24_mk (w : World) (x : S24)  : k24.K w x [.int .i64 x.f0, .int .i64 x.f1, .int .i64 x.f2, .int .u64 x.f3, .int .u64 x.f4, .int .u64 x.f5] := ⟨[.int .i64 x.f0], [.int .i64 x.f1, .int .i64 x.f2, .int .u64 x.f3, .int .u64 x.f4, .int .u64 x.f5], rfl, rfl, ⟨[.int .i64 x.f1], [.int .i64 x.f2, .int .u64 x.f3, .int .u64 x.f4, .int .u64 x.f5], rfl, rfl, ⟨[.int .i64 x.f2], [.int .u64 x.f3, .int .u64 x.f4, .int .u64 x.f5], rfl, rfl, ⟨[.int .u64 x.f3], [.int .u64 x.f4, .int .u64 x.f5], rfl, rfl, ⟨[.int .u64 x.f4], [.int .u64 x.f5], rfl, rfl, rfl⟩⟩⟩⟩⟩
theorem k24_mkM (w : World) (base : Nat) (ok : Nat → Prop) (x : S24)  : k24.M w base ok x [.int .i64 x.f0, .int .i64 x.f1, .int .i64 x.f2, .int .u64 x.f3, .int .u64 x.f4, .int .u64 x.f5] := ⟨[.int .i64 x.f0], [.int .i64 x.f1, .int .i64 x.f2, .int .u64 x.f3, .int .u64 x.f4, .int .u64 x.f5], rfl, rfl, ⟨[.int .i64 x.f1], [.int .i64 x.f2, .int .u64 x.f3, .int .u64 x.f4, .int .u64 x.f5], rfl, rfl, ⟨[.int .i64 x.f2], [.int .u64 x.f3, .int .u64 x.f4, .int .u64 x.f5], rfl, rfl, ⟨[.int .u64 x.f3], [.int .u64 x.f4, .int .u64 x.f5], rfl, rfl, ⟨[.int .u64 x.f4], [.int .u64 x.f5], rfl, rfl, rfl⟩⟩⟩⟩⟩
theorem k24_mkF (W : World) (ok : Nat → Prop) (x : S24) : Kd.FK k24 W ok x [.int .i64 x.f0, .int .i64 x.f1, .int .i64 x.f2, .int .u64 x.f3, .int .u64 x.f4, .int .u64 x.f5] := fun W2 _ => k24_mk W2 x
def rd_T24 (xs : List S24) (i : Int) : S24 := xs.getD i.toNat z24
theorem at_T24 {w : World} {A : Option Addr} {n : Nat} {xs : List S24} (h : Kd.C k24 w A n xs) (i : Int) (h0 : 0 ≤ i) (h1 : i < n) : ∃ ad , A = some ad ∧ w.cell? (ad.add (i.toNat * 6)) = some (.int .i64 (rd_T24 xs i).f0) ∧ w.cell? ⟨(ad.add (i.toNat * 6)).block, (ad.add (i.toNat * 6)).off + 1, none⟩ = some (.int .i64 (rd_T24 xs i).f1) ∧ w.cell? ⟨(ad.add (i.toNat * 6)).block, (ad.add (i.toNat * 6)).off + 2, none⟩ = some (.int .i64 (rd_T24 xs i).f2) ∧ w.cell? ⟨(ad.add (i.toNat * 6)).block, (ad.add (i.toNat * 6)).off + 3, none⟩ = some (.int .u64 (rd_T24 xs i).f3) ∧ w.cell? ⟨(ad.add (i.toNat * 6)).block, (ad.add (i.toNat * 6)).off + 4, none⟩ = some (.int .u64 (rd_T24 xs i).f4) ∧ w.cell? ⟨(ad.add (i.toNat * 6)).block, (ad.add (i.toNat * 6)).off + 5, none⟩ = some (.int .u64 (rd_T24 xs i).f5) := by
  obtain ⟨ad, c, e, _, hK, hc0⟩ := Kd.C_get h z24 i h0 h1
  have hc : ∀ j u, c[j]? = some u → w.cell? (ad.add (i.toNat * 6 + j)) = some u := hc0
  obtain rfl := k24_open hK
  exact ⟨ad, e, hc 0 _ rfl, by rw [← add_field _ _ 1 (by omega)]; exact hc 1 _ rfl, by rw [← add_field _ _ 2 (by omega)]; exact hc 2 _ rfl, by rw [← add_field _ _ 3 (by omega)]; exact hc 3 _ rfl, by rw [← add_field _ _ 4 (by omega)]; exact hc 4 _ rfl, by rw [← add_field _ _ 5 (by omega)]; exact hc 5 _ rfl⟩

/-! #### struct type 34 -/
structure S34 where
  f0 : Int
  f1 : Int
  f2 : (List (List Int))
def z34 : S34 := ⟨(0 : Int), (0 : Int), ([] : List (List Int))⟩
def k34 : Kd S34 := Kd.iso (Kd.pair (Kd.int .u64) (Kd.pair (Kd.int .u64) (Kd.slice 27 (Kd.slice 5 (Kd.int .u8))))) (fun x : S34 => (x.f0, x.f1, x.f2))
theorem k34_heap : Kd.Heap k34 := Kd.heap_iso _ (Kd.heap_pair (Kd.heap_int .u64) (Kd.heap_pair (Kd.heap_int .u64) (Kd.heap_slice 27 (Kd.heap_slice 5 (Kd.heap_int .u8)))))
theorem k34_open {w : World} {x : S34} {cs : List Value} (h : k34.K w x cs) : ∃ A2 c2, cs = [.int .u64 x.f0, .int .u64 x.f1, .slice A2 x.f2.length c2] ∧ x.f2.length ≤ c2 ∧ (Kd.slice 5 (Kd.int .u8)).C w A2 x.f2.length x.f2 := by
  obtain ⟨_, _, rfl, rfl, ⟨_, _, rfl, rfl, ⟨A2, c2, rfl, l2, g2⟩⟩⟩ := h
  exact ⟨A2, c2, rfl, l2, g2⟩
theorem k34_openM {w : World} {base : Nat} {ok : Nat → Prop} {x : S34} {cs : List Value} (h : k34.M w base ok x cs) : ∃ v2, cs = [.int .u64 x.f0, .int .u64 x.f1, v2] ∧ (Kd.slice 5 (Kd.int .u8)).R 27 w base ok v2 x.f2 := by
  obtain ⟨_, _, rfl, rfl, ⟨_, _, rfl, rfl, ⟨v2, rfl, g2⟩⟩⟩ := h
  exact ⟨v2, rfl, g2⟩
theorem k34_mk (w : World) (x : S34) {A2 : Option Addr} {c2 : Nat} (l2 : x.f2.length ≤ c2) (g2 : (Kd.slice 5 (Kd.int .u8)).C w A2 x.f2.length x.f2) : k34.K w x [.int .u64 x.f0, .int .u64 x.f1, .slice A2 x.f2.length c2] := ⟨[.int .u64 x.f0], [.int .u64 x.f1, .slice A2 x.f2.length c2], rfl, rfl, ⟨[.int .u64 x.f1], [.slice A2 x.f2.length c2], rfl, rfl, ⟨A2, c2, rfl, l2, g2⟩⟩⟩
theorem k34_mkM (w : World) (base : Nat) (ok : Nat → Prop) (x : S34) {v2 : Value} (g2 : (Kd.slice 5 (Kd.int .u8)).R 27 w base ok v2 x.f2) : k34.M w base ok x [.int .u64 x.f0, .int .u64 x.f1, v2] := ⟨[.int .u64 x.f0], [.int .u64 x.f1, v2], rfl, rfl, ⟨[.int .u64 x.f1], [v2], rfl, rfl, ⟨v2, rfl, g2⟩⟩⟩
theorem k34_openF {W : World} {ok : Nat → Prop} {x : S34} {cs : List Value} (h : Kd.FK k34 W ok x cs) : ∃ A2 c2, cs = [.int .u64 x.f0, .int .u64 x.f1, .slice A2 x.f2.length c2] ∧ x.f2.length ≤ c2 ∧ Kd.F (Kd.slice 5 (Kd.int .u8)) W ok A2 x.f2.length x.f2 := by
  obtain ⟨A2, c2, rfl, l2, _⟩ := k34_open (Kd.FK_now h)
  exact ⟨A2, c2, rfl, l2, (fun W' hW => by obtain ⟨A2_, c2_, he, l2_, g2_⟩ := k34_open (h W' hW); injection (Option.some.inj (show some (Value.slice A2 x.f2.length c2) = some (Value.slice A2_ x.f2.length c2_) from congrArg (fun l => l[2]?) he)) with ha_ _ _; rw [ha_]; exact g2_)⟩
theorem k34_mkF (W : World) (ok : Nat → Prop) (x : S34) {A2 : Option Addr} {c2 : Nat} (l2 : x.f2.length ≤ c2) (g2 : Kd.F (Kd.slice 5 (Kd.int .u8)) W ok A2 x.f2.length x.f2) : Kd.FK k34 W ok x [.int .u64 x.f0, .int .u64 x.f1, .slice A2 x.f2.length c2] := fun W2 hW => k34_mk W2 x l2 (g2 W2 hW)
def rd_T34 (xs : List S34) (i : Int) : S34 := xs.getD i.toNat z34
theorem at_T34 {w : World} {A : Option Addr} {n : Nat} {xs : List S34} (h : Kd.C k34 w A n xs) (i : Int) (h0 : 0 ≤ i) (h1 : i < n) : ∃ ad A2 c2, A = some ad ∧ w.cell? (ad.add (i.toNat * 3)) = some (.int .u64 (rd_T34 xs i).f0) ∧ w.cell? ⟨(ad.add (i.toNat * 3)).block, (ad.add (i.toNat * 3)).off + 1, none⟩ = some (.int .u64 (rd_T34 xs i).f1) ∧ w.cell? ⟨(ad.add (i.toNat * 3)).block, (ad.add (i.toNat * 3)).off + 2, none⟩ = some (.slice A2 (rd_T34 xs i).f2.length c2) ∧ (rd_T34 xs i).f2.length ≤ c2 ∧ (Kd.slice 5 (Kd.int .u8)).C w A2 (rd_T34 xs i).f2.length (rd_T34 xs i).f2 := by
  obtain ⟨ad, c, e, _, hK, hc0⟩ := Kd.C_get h z34 i h0 h1
  have hc : ∀ j u, c[j]? = some u → w.cell? (ad.add (i.toNat * 3 + j)) = some u := hc0
  obtain ⟨A2, c2, rfl, l2, g2⟩ := k34_open hK
  exact ⟨ad, A2, c2, e, hc 0 _ rfl, by rw [← add_field _ _ 1 (by omega)]; exact hc 1 _ rfl, by rw [← add_field _ _ 2 (by omega)]; exact hc 2 _ rfl, l2, g2⟩

def rd_L12 (xs : List (List S51)) (i : Int) : (List S51) := xs.getD i.toNat ([] : List S51)
theorem at_L12 {w : World} {A : Option Addr} {n : Nat} {xs : List (List S51)} (h : Kd.C (Kd.slice 51 k51) w A n xs) (i : Int) (h0 : 0 ≤ i) (h1 : i < n) : ∃ ad A0 c0, A = some ad ∧ w.cell? (ad.add i.toNat) = some (.slice A0 (rd_L12 xs i).length c0) ∧ (rd_L12 xs i).length ≤ c0 ∧ k51.C w A0 (rd_L12 xs i).length (rd_L12 xs i) := by
  obtain ⟨ad, c, e, _, hK, hc0⟩ := Kd.C_get h ([] : List S51) i h0 h1
  have hc : ∀ j u, c[j]? = some u → w.cell? (ad.add (i.toNat * 1 + j)) = some u := hc0
  obtain ⟨A0, c0, rfl, l0, g0⟩ := hK
  exact ⟨ad, A0, c0, e, by have hq := hc 0 _ rfl; rwa [Nat.mul_one, Nat.add_zero] at hq, l0, g0⟩

def rd_L13 (xs : List (List S49)) (i : Int) : (List S49) := xs.getD i.toNat ([] : List S49)
theorem at_L13 {w : World} {A : Option Addr} {n : Nat} {xs : List (List S49)} (h : Kd.C (Kd.slice 49 k49) w A n xs) (i : Int) (h0 : 0 ≤ i) (h1 : i < n) : ∃ ad A0 c0, A = some ad ∧ w.cell? (ad.add i.toNat) = some (.slice A0 (rd_L13 xs i).length c0) ∧ (rd_L13 xs i).length ≤ c0 ∧ k49.C w A0 (rd_L13 xs i).length (rd_L13 xs i) := by
  obtain ⟨ad, c, e, _, hK, hc0⟩ := Kd.C_get h ([] : List S49) i h0 h1
  have hc : ∀ j u, c[j]? = some u → w.cell? (ad.add (i.toNat * 1 + j)) = some u := hc0
  obtain ⟨A0, c0, rfl, l0, g0⟩ := hK
  exact ⟨ad, A0, c0, e, by have hq := hc 0 _ rfl; rwa [Nat.mul_one, Nat.add_zero] at hq, l0, g0⟩

/-! #### struct type 61 -/
structure S61 where
  f0 : (List S49)
  f1 : S49
  f2 : Int
  f3 : Int
def z61 : S61 := ⟨([] : List S49), z49, (0 : Int), (0 : Int)⟩
def k61 : Kd S61 := Kd.iso (Kd.pair (Kd.slice 49 k49) (Kd.pair k49 (Kd.pair (Kd.int .i64) (Kd.int .i64)))) (fun x : S61 => (x.f0, x.f1, x.f2, x.f3))
theorem k61_heap : Kd.Heap k61 := Kd.heap_iso _ (Kd.heap_pair (Kd.heap_slice 49 k49_heap) (Kd.heap_pair k49_heap (Kd.heap_pair (Kd.heap_int .i64) (Kd.heap_int .i64))))
theorem k61_open {w : World} {x : S61} {cs : List Value} (h : k61.K w x cs) : ∃ A0 c0, cs = [.slice A0 x.f0.length c0, .int .u64 x.f1.f0, .int .u64 x.f1.f1, .int .i64 x.f2, .int .i64 x.f3] ∧ x.f0.length ≤ c0 ∧ k49.C w A0 x.f0.length x.f0 := by
  obtain ⟨_, _, rfl, ⟨A0, c0, rfl, l0, g0⟩, ⟨_, _, rfl, s1, ⟨_, _, rfl, rfl, rfl⟩⟩⟩ := h
  obtain rfl := k49_open s1
  exact ⟨A0, c0, rfl, l0, g0⟩
theorem k61_openM {w : World} {base : Nat} {ok : Nat → Prop} {x : S61} {cs : List Value} (h : k61.M w base ok x cs) : ∃ v0, cs = [v0, .int .u64 x.f1.f0, .int .u64 x.f1.f1, .int .i64 x.f2, .int .i64 x.f3] ∧ k49.R 49 w base ok v0 x.f0 := by
  obtain ⟨_, _, rfl, ⟨v0, rfl, g0⟩, ⟨_, _, rfl, s1, ⟨_, _, rfl, rfl, rfl⟩⟩⟩ := h
  obtain rfl := k49_openM s1
  exact ⟨v0, rfl, g0⟩
theorem k61_mk (w : World) (x : S61) {A0 : Option Addr} {c0 : Nat} (l0 : x.f0.length ≤ c0) (g0 : k49.C w A0 x.f0.length x.f0) : k61.K w x [.slice A0 x.f0.length c0, .int .u64 x.f1.f0, .int .u64 x.f1.f1, .int .i64 x.f2, .int .i64 x.f3] := ⟨[.slice A0 x.f0.length c0], [.int .u64 x.f1.f0, .int .u64 x.f1.f1, .int .i64 x.f2, .int .i64 x.f3], rfl, ⟨A0, c0, rfl, l0, g0⟩, ⟨[.int .u64 x.f1.f0, .int .u64 x.f1.f1], [.int .i64 x.f2, .int .i64 x.f3], rfl, (k49_mk w x.f1 ), ⟨[.int .i64 x.f2], [.int .i64 x.f3], rfl, rfl, rfl⟩⟩⟩
theorem k61_mkM (w : World) (base : Nat) (ok : Nat → Prop) (x : S61) {v0 : Value} (g0 : k49.R 49 w base ok v0 x.f0) : k61.M w base ok x [v0, .int .u64 x.f1.f0, .int .u64 x.f1.f1, .int .i64 x.f2, .int .i64 x.f3] := ⟨[v0], [.int .u64 x.f1.f0, .int .u64 x.f1.f1, .int .i64 x.f2, .int .i64 x.f3], rfl, ⟨v0, rfl, g0⟩, ⟨[.int .u64 x.f1.f0, .int .u64 x.f1.f1], [.int .i64 x.f2, .int .i64 x.f3], rfl, (k49_mkM w base ok x.f1 ), ⟨[.int .i64 x.f2], [.int .i64 x.f3], rfl, rfl, rfl⟩⟩⟩
theorem k61_openF {W : World} {ok : Nat → Prop} {x : S61} {cs : List Value} (h : Kd.FK k61 W ok x cs) : ∃ A0 c0, cs = [.slice A0 x.f0.length c0, .int .u64 x.f1.f0, .int .u64 x.f1.f1, .int .i64 x.f2, .int .i64 x.f3] ∧ x.f0.length ≤ c0 ∧ Kd.F k49 W ok A0 x.f0.length x.f0 := by
  obtain ⟨A0, c0, rfl, l0, _⟩ := k61_open (Kd.FK_now h)
  exact ⟨A0, c0, rfl, l0, (fun W' hW => by obtain ⟨A0_, c0_, he, l0_, g0_⟩ := k61_open (h W' hW); injection (Option.some.inj (show some (Value.slice A0 x.f0.length c0) = some (Value.slice A0_ x.f0.length c0_) from congrArg (fun l => l[0]?) he)) with ha_ _ _; rw [ha_]; exact g0_)⟩
theorem k61_mkF (W : World) (ok : Nat → Prop) (x : S61) {A0 : Option Addr} {c0 : Nat} (l0 : x.f0.length ≤ c0) (g0 : Kd.F k49 W ok A0 x.f0.length x.f0) : Kd.FK k61 W ok x [.slice A0 x.f0.length c0, .int .u64 x.f1.f0, .int .u64 x.f1.f1, .int .i64 x.f2, .int .i64 x.f3] := fun W2 hW => k61_mk W2 x l0 (g0 W2 hW)
def rd_T61 (xs : List S61) (i : Int) : S61 := xs.getD i.toNat z61
theorem at_T61 {w : World} {A : Option Addr} {n : Nat} {xs : List S61} (h : Kd.C k61 w A n xs) (i : Int) (h0 : 0 ≤ i) (h1 : i < n) : ∃ ad A0 c0, A = some ad ∧ w.cell? (ad.add (i.toNat * 5)) = some (.slice A0 (rd_T61 xs i).f0.length c0) ∧ w.cell? ⟨(ad.add (i.toNat * 5)).block, (ad.add (i.toNat * 5)).off + 1, none⟩ = some (.int .u64 (rd_T61 xs i).f1.f0) ∧ w.cell? ⟨(ad.add (i.toNat * 5)).block, (ad.add (i.toNat * 5)).off + 2, none⟩ = some (.int .u64 (rd_T61 xs i).f1.f1) ∧ w.cell? ⟨(ad.add (i.toNat * 5)).block, (ad.add (i.toNat * 5)).off + 3, none⟩ = some (.int .i64 (rd_T61 xs i).f2) ∧ w.cell? ⟨(ad.add (i.toNat * 5)).block, (ad.add (i.toNat * 5)).off + 4, none⟩ = some (.int .i64 (rd_T61 xs i).f3) ∧ (rd_T61 xs i).f0.length ≤ c0 ∧ k49.C w A0 (rd_T61 xs i).f0.length (rd_T61 xs i).f0 := by
  obtain ⟨ad, c, e, _, hK, hc0⟩ := Kd.C_get h z61 i h0 h1
  have hc : ∀ j u, c[j]? = some u → w.cell? (ad.add (i.toNat * 5 + j)) = some u := hc0
  obtain ⟨A0, c0, rfl, l0, g0⟩ := k61_open hK
  exact ⟨ad, A0, c0, e, hc 0 _ rfl, by rw [← add_field _ _ 1 (by omega)]; exact hc 1 _ rfl, by rw [← add_field _ _ 2 (by omega)]; exact hc 2 _ rfl, by rw [← add_field _ _ 3 (by omega)]; exact hc 3 _ rfl, by rw [← add_field _ _ 4 (by omega)]; exact hc 4 _ rfl, l0, g0⟩

end Go.Proofs.YtielnphmcaecdaaDoor.PAll
