-- Written by a program of this session (wip/tools)
import Derived.Test.YthfgegaakfgjkaaDoorProg
import Derived.Below
import Derived.Deep.Draws
import Derived.Deep.AppendLies
import Derived.Maps.AppendAt
import Derived.OwnWalk
import Derived.Laws.BytesArg
import Derived.Laws.MakeOwn
import Derived.Laws.OwnMore
import Derived.Deep.OwnRows
import Derived.Tactics
import Derived.Lib.ConvBytes
import Derived.Laws.Slices
import Derived.WalkKit
import Derived.KernelRfl
import Derived.RowKit3
import Derived.Deep.LoopGhost
import Derived.Deep.QuietTactic
import Derived.BigQuiet
import Derived.WideLaws
import Derived.Deep.DeepCutAuto
import Derived.Deep.CutBlock
import Derived.Deep.RegionHeld3
import Derived.Laws.Rows
import Derived.Lib.AppendStr
import Derived.ArgAppend
import Derived.Laws.IdiomCopy
import Derived.OrdersHeld
import Derived.Laws.BitsLemmas
import Derived.RowKit
import Derived.Test.YthfgegaakfgjkaaDoorWWords
import Derived.Test.YthfgegaakfgjkaaDoorWLast
import Derived.Test.YthfgegaakfgjkaaDoorWTab
import Derived.Test.YthfgegaakfgjkaaDoorWFour
import Derived.Test.YthfgegaakfgjkaaDoorWQPut
import Derived.Test.YthfgegaakfgjkaaDoorWApart
import Derived.Test.YthfgegaakfgjkaaDoorWArr
import Derived.Test.YthfgegaakfgjkaaDoorWZeros
import Derived.Test.YthfgegaakfgjkaaDoorWFoot
import Derived.Test.YthfgegaakfgjkaaDoorWKept
import Derived.Test.YthfgegaakfgjkaaDoorWShare
import Derived.Test.YthfgegaakfgjkaaDoorWN
import Derived.Test.YthfgegaakfgjkaaDoorWFootNe
import Derived.Test.YthfgegaakfgjkaaDoorWAt
import Derived.Test.YthfgegaakfgjkaaDoorWEqStruct
import Derived.Test.YthfgegaakfgjkaaDoorWRepsOne
import Derived.Test.YthfgegaakfgjkaaDoorWInv
import Derived.Test.YthfgegaakfgjkaaDoorWInvWords
import Derived.Test.YthfgegaakfgjkaaDoorWGuard
import Derived.Test.YthfgegaakfgjkaaDoorWNEv
import Derived.Test.YthfgegaakfgjkaaDoorWMore
namespace Go.Proofs.YthfgegaakfgjkaaDoor.PAll
open Go.RowKit Go.Proofs.YthfgegaakfgjkaaDoorW.PrintWords Go.Proofs.YthfgegaakfgjkaaDoorW.PrintLast Go.Proofs.YthfgegaakfgjkaaDoorW.PrintMore
attribute [local go_sem] max2_int min2_int max_two min_two max_three min_three max_four min_four   -- for this text's walks alone
set_option linter.unusedVariables false
set_option linter.unusedSimpArgs false



def errW : Option Int → Value
  | none => .nilIface
  | some c => .iface 0 (.int .i64 c)
theorem errW_none : errW none = .nilIface := rfl
theorem errW_some (c : Int) : errW (some c) = .iface 0 (.int .i64 c) := rfl

theorem info26 : (Tryd.prog.info? 26).map (fun i => (i.zero, i.size, i.bytes)) = some (some (.agg #[(.int .u64 0), (.int .u64 0)]), 2, 16) := by kernel_rfl
theorem info36 : (Tryd.prog.info? 36).map (fun i => (i.zero, i.size, i.bytes)) = some (some (.agg #[(.int .u64 0), (.int .u64 0)]), 2, 16) := by kernel_rfl
theorem info46 : (Tryd.prog.info? 46).map (fun i => (i.zero, i.size, i.bytes)) = some (some (.agg #[(.int .u64 0), (.int .u64 0)]), 2, 16) := by kernel_rfl
-- the values' own types
/-! #### struct type 36 -/
structure S36 where
  f0 : Int
  f1 : Int
def z36 : S36 := ⟨(0 : Int), (0 : Int)⟩
def k36 : Kd S36 := Kd.iso (Kd.pair (Kd.int .u64) (Kd.int .u64)) (fun x : S36 => (x.f0, x.f1))
theorem k36_open {w : World} {x : S36} {cs : List Value} (h : k36.K w x cs) : cs = [.int .u64 x.f0, .int .u64 x.f1] := by
  obtain ⟨_, _, rfl, rfl, rfl⟩ := h
  exact rfl
theorem k36_openM {w : World} {base : Nat} {ok : Nat → Prop} {x : S36} {cs : List Value} (h : k36.M w base ok x cs) : cs = [.int .u64 x.f0, .int .u64 x.f1] := by
  obtain ⟨_, _, rfl, rfl, rfl⟩ := h
  exact rfl
theorem k36_mk (w : World) (x : S36)  : k36.K w x [.int .u64 x.f0, .int .u64 x.f1] := ⟨[.int .u64 x.f0], [.int .u64 x.f1], rfl, rfl, rfl⟩
theorem k36_mkM (w : World) (base : Nat) (ok : Nat → Prop) (x : S36)  : k36.M w base ok x [.int .u64 x.f0, .int .u64 x.f1] := ⟨[.int .u64 x.f0], [.int .u64 x.f1], rfl, rfl, rfl⟩
def rd_T36 (xs : List S36) (i : Int) : S36 := xs.getD i.toNat z36
theorem at_T36 {w : World} {A : Option Addr} {n : Nat} {xs : List S36} (h : Kd.C k36 w A n xs) (i : Int) (h0 : 0 ≤ i) (h1 : i < n) : ∃ ad , A = some ad ∧ w.cell? (ad.add (i.toNat * 2)) = some (.int .u64 (rd_T36 xs i).f0) ∧ w.cell? ⟨(ad.add (i.toNat * 2)).block, (ad.add (i.toNat * 2)).off + 1, none⟩ = some (.int .u64 (rd_T36 xs i).f1) := by
  obtain ⟨ad, c, e, _, hK, hc0⟩ := Kd.C_get h z36 i h0 h1
  have hc : ∀ j u, c[j]? = some u → w.cell? (ad.add (i.toNat * 2 + j)) = some u := hc0
  obtain rfl := k36_open hK
  exact ⟨ad, e, hc 0 _ rfl, by rw [← add_field _ _ 1 (by omega)]; exact hc 1 _ rfl⟩

/-! #### struct type 46 -/
structure S46 where
  f0 : Int
  f1 : Int
def z46 : S46 := ⟨(0 : Int), (0 : Int)⟩
def k46 : Kd S46 := Kd.iso (Kd.pair (Kd.int .u64) (Kd.int .u64)) (fun x : S46 => (x.f0, x.f1))
theorem k46_open {w : World} {x : S46} {cs : List Value} (h : k46.K w x cs) : cs = [.int .u64 x.f0, .int .u64 x.f1] := by
  obtain ⟨_, _, rfl, rfl, rfl⟩ := h
  exact rfl
theorem k46_openM {w : World} {base : Nat} {ok : Nat → Prop} {x : S46} {cs : List Value} (h : k46.M w base ok x cs) : cs = [.int .u64 x.f0, .int .u64 x.f1] := by
  obtain ⟨_, _, rfl, rfl, rfl⟩ := h
  exact rfl
theorem k46_mk (w : World) (x : S46)  : k46.K w x [.int .u64 x.f0, .int .u64 x.f1] := ⟨[.int .u64 x.f0], [.int .u64 x.f1], rfl, rfl, rfl⟩
theorem k46_mkM (w : World) (base : Nat) (ok : Nat → Prop) (x : S46)  : k46.M w base ok x [.int .u64 x.f0, .int .u64 x.f1] := ⟨[.int .u64 x.f0], [.int .u64 x.f1], rfl, rfl, rfl⟩
def rd_T46 (xs : List S46) (i : Int) : S46 := xs.getD i.toNat z46
theorem at_T46 {w : World} {A : Option Addr} {n : Nat} {xs : List S46} (h : Kd.C k46 w A n xs) (i : Int) (h0 : 0 ≤ i) (h1 : i < n) : ∃ ad , A = some ad ∧ w.cell? (ad.add (i.toNat * 2)) = some (.int .u64 (rd_T46 xs i).f0) ∧ w.cell? ⟨(ad.add (i.toNat * 2)).block, (ad.add (i.toNat * 2)).off + 1, none⟩ = some (.int .u64 (rd_T46 xs i).f1) := by
  obtain ⟨ad, c, e, _, hK, hc0⟩ := Kd.C_get h z46 i h0 h1
  have hc : ∀ j u, c[j]? = some u → w.cell? (ad.add (i.toNat * 2 + j)) = some u := hc0
  obtain rfl := k46_open hK
  exact ⟨ad, e, hc 0 _ rfl, by rw [← add_field _ _ 1 (by omega)]; exact hc 1 _ rfl⟩

def rd_L4 (xs : List (List S36)) (i : Int) : (List S36) := xs.getD i.toNat ([] : List S36)
theorem at_L4 {w : World} {A : Option Addr} {n : Nat} {xs : List (List S36)} (h : Kd.C (Kd.slice 36 k36) w A n xs) (i : Int) (h0 : 0 ≤ i) (h1 : i < n) : ∃ ad A0 c0, A = some ad ∧ w.cell? (ad.add i.toNat) = some (.slice A0 (rd_L4 xs i).length c0) ∧ (rd_L4 xs i).length ≤ c0 ∧ k36.C w A0 (rd_L4 xs i).length (rd_L4 xs i) := by
  obtain ⟨ad, c, e, _, hK, hc0⟩ := Kd.C_get h ([] : List S36) i h0 h1
  have hc : ∀ j u, c[j]? = some u → w.cell? (ad.add (i.toNat * 1 + j)) = some u := hc0
  obtain ⟨A0, c0, rfl, l0, g0⟩ := hK
  exact ⟨ad, A0, c0, e, by have hq := hc 0 _ rfl; rwa [Nat.mul_one, Nat.add_zero] at hq, l0, g0⟩

/-! #### struct type 38 -/
structure S38 where
  f0 : (List S36)
  f1 : S36
  f2 : Int
  f3 : Int
def z38 : S38 := ⟨([] : List S36), z36, (0 : Int), (0 : Int)⟩
def k38 : Kd S38 := Kd.iso (Kd.pair (Kd.slice 36 k36) (Kd.pair k36 (Kd.pair (Kd.int .i64) (Kd.int .i64)))) (fun x : S38 => (x.f0, x.f1, x.f2, x.f3))
theorem k38_open {w : World} {x : S38} {cs : List Value} (h : k38.K w x cs) : ∃ A0 c0, cs = [.slice A0 x.f0.length c0, .int .u64 x.f1.f0, .int .u64 x.f1.f1, .int .i64 x.f2, .int .i64 x.f3] ∧ x.f0.length ≤ c0 ∧ k36.C w A0 x.f0.length x.f0 := by
  obtain ⟨_, _, rfl, ⟨A0, c0, rfl, l0, g0⟩, ⟨_, _, rfl, s1, ⟨_, _, rfl, rfl, rfl⟩⟩⟩ := h
  obtain rfl := k36_open s1
  exact ⟨A0, c0, rfl, l0, g0⟩
theorem k38_openM {w : World} {base : Nat} {ok : Nat → Prop} {x : S38} {cs : List Value} (h : k38.M w base ok x cs) : ∃ v0, cs = [v0, .int .u64 x.f1.f0, .int .u64 x.f1.f1, .int .i64 x.f2, .int .i64 x.f3] ∧ k36.R 36 w base ok v0 x.f0 := by
  obtain ⟨_, _, rfl, ⟨v0, rfl, g0⟩, ⟨_, _, rfl, s1, ⟨_, _, rfl, rfl, rfl⟩⟩⟩ := h
  obtain rfl := k36_openM s1
  exact ⟨v0, rfl, g0⟩
theorem k38_mk (w : World) (x : S38) {A0 : Option Addr} {c0 : Nat} (l0 : x.f0.length ≤ c0) (g0 : k36.C w A0 x.f0.length x.f0) : k38.K w x [.slice A0 x.f0.length c0, .int .u64 x.f1.f0, .int .u64 x.f1.f1, .int .i64 x.f2, .int .i64 x.f3] := ⟨[.slice A0 x.f0.length c0], [.int .u64 x.f1.f0, .int .u64 x.f1.f1, .int .i64 x.f2, .int .i64 x.f3], rfl, ⟨A0, c0, rfl, l0, g0⟩, ⟨[.int .u64 x.f1.f0, .int .u64 x.f1.f1], [.int .i64 x.f2, .int .i64 x.f3], rfl, (k36_mk w x.f1 ), ⟨[.int .i64 x.f2], [.int .i64 x.f3], rfl, rfl, rfl⟩⟩⟩
theorem k38_mkM (w : World) (base : Nat) (ok : Nat → Prop) (x : S38) {v0 : Value} (g0 : k36.R 36 w base ok v0 x.f0) : k38.M w base ok x [v0, .int .u64 x.f1.f0, .int .u64 x.f1.f1, .int .i64 x.f2, .int .i64 x.f3] := ⟨[v0], [.int .u64 x.f1.f0, .int .u64 x.f1.f1, .int .i64 x.f2, .int .i64 x.f3], rfl, ⟨v0, rfl, g0⟩, ⟨[.int .u64 x.f1.f0, .int .u64 x.f1.f1], [.int .i64 x.f2, .int .i64 x.f3], rfl, (k36_mkM w base ok x.f1 ), ⟨[.int .i64 x.f2], [.int .i64 x.f3], rfl, rfl, rfl⟩⟩⟩
def rd_T38 (xs : List S38) (i : Int) : S38 := xs.getD i.toNat z38
theorem at_T38 {w : World} {A : Option Addr} {n : Nat} {xs : List S38} (h : Kd.C k38 w A n xs) (i : Int) (h0 : 0 ≤ i) (h1 : i < n) : ∃ ad A0 c0, A = some ad ∧ w.cell? (ad.add (i.toNat * 5)) = some (.slice A0 (rd_T38 xs i).f0.length c0) ∧ w.cell? ⟨(ad.add (i.toNat * 5)).block, (ad.add (i.toNat * 5)).off + 1, none⟩ = some (.int .u64 (rd_T38 xs i).f1.f0) ∧ w.cell? ⟨(ad.add (i.toNat * 5)).block, (ad.add (i.toNat * 5)).off + 2, none⟩ = some (.int .u64 (rd_T38 xs i).f1.f1) ∧ w.cell? ⟨(ad.add (i.toNat * 5)).block, (ad.add (i.toNat * 5)).off + 3, none⟩ = some (.int .i64 (rd_T38 xs i).f2) ∧ w.cell? ⟨(ad.add (i.toNat * 5)).block, (ad.add (i.toNat * 5)).off + 4, none⟩ = some (.int .i64 (rd_T38 xs i).f3) ∧ (rd_T38 xs i).f0.length ≤ c0 ∧ k36.C w A0 (rd_T38 xs i).f0.length (rd_T38 xs i).f0 := by
  obtain ⟨ad, c, e, _, hK, hc0⟩ := Kd.C_get h z38 i h0 h1
  have hc : ∀ j u, c[j]? = some u → w.cell? (ad.add (i.toNat * 5 + j)) = some u := hc0
  obtain ⟨A0, c0, rfl, l0, g0⟩ := k38_open hK
  exact ⟨ad, A0, c0, e, hc 0 _ rfl, by rw [← add_field _ _ 1 (by omega)]; exact hc 1 _ rfl, by rw [← add_field _ _ 2 (by omega)]; exact hc 2 _ rfl, by rw [← add_field _ _ 3 (by omega)]; exact hc 3 _ rfl, by rw [← add_field _ _ 4 (by omega)]; exact hc 4 _ rfl, l0, g0⟩

/-! #### struct type 26 -/
structure S26 where
  f0 : Int
  f1 : Int
def z26 : S26 := ⟨(0 : Int), (0 : Int)⟩
def k26 : Kd S26 := Kd.iso (Kd.pair (Kd.int .u64) (Kd.int .u64)) (fun x : S26 => (x.f0, x.f1))
theorem k26_open {w : World} {x : S26} {cs : List Value} (h : k26.K w x cs) : cs = [.int .u64 x.f0, .int .u64 x.f1] := by
  obtain ⟨_, _, rfl, rfl, rfl⟩ := h
  exact rfl
theorem k26_openM {w : World} {base : Nat} {ok : Nat → Prop} {x : S26} {cs : List Value} (h : k26.M w base ok x cs) : cs = [.int .u64 x.f0, .int .u64 x.f1] := by
  obtain ⟨_, _, rfl, rfl, rfl⟩ := h
  exact rfl
theorem k26_mk (w : World) (x : S26)  : k26.K w x [.int .u64 x.f0, .int .u64 x.f1] := ⟨[.int .u64 x.f0], [.int .u64 x.f1], rfl, rfl, rfl⟩
theorem k26_mkM (w : World) (base : Nat) (ok : Nat → Prop) (x : S26)  : k26.M w base ok x [.int .u64 x.f0, .int .u64 x.f1] := ⟨[.int .u64 x.f0], [.int .u64 x.f1], rfl, rfl, rfl⟩
def rd_T26 (xs : List S26) (i : Int) : S26 := xs.getD i.toNat z26
theorem at_T26 {w : World} {A : Option Addr} {n : Nat} {xs : List S26} (h : Kd.C k26 w A n xs) (i : Int) (h0 : 0 ≤ i) (h1 : i < n) : ∃ ad , A = some ad ∧ w.cell? (ad.add (i.toNat * 2)) = some (.int .u64 (rd_T26 xs i).f0) ∧ w.cell? ⟨(ad.add (i.toNat * 2)).block, (ad.add (i.toNat * 2)).off + 1, none⟩ = some (.int .u64 (rd_T26 xs i).f1) := by
  obtain ⟨ad, c, e, _, hK, hc0⟩ := Kd.C_get h z26 i h0 h1
  have hc : ∀ j u, c[j]? = some u → w.cell? (ad.add (i.toNat * 2 + j)) = some u := hc0
  obtain rfl := k26_open hK
  exact ⟨ad, e, hc 0 _ rfl, by rw [← add_field _ _ 1 (by omega)]; exact hc 1 _ rfl⟩

end Go.Proofs.YthfgegaakfgjkaaDoor.PAll
