import Derived.Test.YtbfhmcgiamnliaaPAllx1
import Derived.Outline
import Derived.Deep.QuietTactic
import Derived.BigQuiet
import Derived.Deep.RegionWith
namespace Go.Proofs.Ytbfhmcgiamnliaa.PAll
open Go.RowKit Go.Proofs.YtbfhmcgiamnliaaW.PrintWords Go.Proofs.YtbfhmcgiamnliaaW.PrintLast Go.Proofs.YtbfhmcgiamnliaaW.PrintMore
set_option linter.unusedVariables false
/-- A hash chained up: to its left where the bit of the index is 1, else to its right. -/
def up_ (H : List Int → List Int → Option (List Int)) (idx : Int) : List (List Int) → Nat → List Int → Option (List Int)
  | [], _, s => some s
  | x :: xs, i, s => (if Go.bits .and .u64 (shr .u64 idx (i : Int)) 1 = 0 then H s x else H x s).bind fun t => up_ H idx xs (i + 1) t
theorem drop_rd {l : List (List Int)} {i : Nat} (h : i < l.length) : l.drop i = rd_L1 l (i : Int) :: l.drop (i + 1) := by
  rw [List.drop_eq_getElem_cons h]
  congr 1
  show _ = l.getD i []
  rw [List.getD_eq_getElem?_getD, List.getElem?_eq_getElem h]; rfl
theorem nxt {i : Nat} (h : i < 9223372036854775807) : wrap64 ((i : Int) + 1) = ((i + 1 : Nat) : Int) := by unfold wrap64; omega
/-- .. with those to its left alone. -/
def upR_ (H : List Int → List Int → Option (List Int)) (idx : Int) : List (List Int) → Nat → List Int → Option (List Int)
  | [], _, s => some s
  | x :: xs, i, s => (if Go.bits .and .u64 (shr .u64 idx (i : Int)) 1 = 1 then H x s else some s).bind fun t => upR_ H idx xs (i + 1) t
/-- .. and with all of them to its left. -/
def upB_ (H : List Int → List Int → Option (List Int)) : List (List Int) → List Int → Option (List Int)
  | [], s => some s
  | x :: xs, s => (H x s).bind fun t => upB_ H xs t
theorem meth (a0 a1 a2 a3 a4 a5 : Int) (w : World) : (method 209 44 (.agg #[.int .i64 a0, .int .i64 a1, .int .i64 a2, .int .u64 a3, .int .u64 a4, .int .u64 a5]) "HashChildren").run Try.prog w = .ok (24, .agg #[.int .i64 a0, .int .i64 a1, .int .i64 a2, .int .u64 a3, .int .u64 a4, .int .u64 a5]) w := by kernel_rfl
set_option maxHeartbeats 8000000 in
set_option maxRecDepth 100000 in
theorem chainInner.calls (k : Nat) (a0 a1 a2 a3 a4 a5 : Int) (v : Value) (s : List Int) (A : Option Addr) (c : Nat) (l : List (List Int)) (idx : Int) (r : List Int) (w : World) (B : Nat) (hB : B ≤ w.heap.size) (hs : Kd.R (Kd.int .u8) 5 w B (fun _ => True) v s) (hr : Kd.C (Kd.slice 5 (Kd.int .u8)) w A l.length l) (hc : l.length ≤ c)
    (h : up_ (impl_toy_HashChildren.f k a0 a1 a2 a3 a4 a5) idx l 0 s = some r) :
    Calls Try.prog 29 #[.iface 44 (.agg #[.int .i64 a0, .int .i64 a1, .int .i64 a2, .int .u64 a3, .int .u64 a4, .int .u64 a5]), v, .slice A l.length c, .int .u64 idx] w fun e w' => ∃ v0_, e = .returned v0_ ∧ Kd.R (Kd.int .u8) 5 w' B (fun _ => True) v0_ r ∧ Below w.heap.size w w' := by
  have HL := Aside0.mk hr.2.1
  have HR := Aside0.mk hr
  have HC := Aside0.mk hc
  have HS := Aside0.mk hs
  have H := Aside0.mk h
  have HBB := Aside0.mk hB
  clear hr hc hs h hB
  have hm := meth a0 a1 a2 a3 a4 a5
  go_enter Try.func29, Try.ntmps29
  go_wp2
  try simp only [Act.put, List.setIfInBounds_toArray, List.set_cons_zero, List.set_cons_succ]
  go_loopg [1, 13] l.length (fun kq v1 v13 w' => ∃ (i : Nat) (s1 : List Int), v13 = .int .i64 (i : Int) ∧ Aside0 (i + kq = l.length) ∧ Aside0 (Kd.R (Kd.int .u8) 5 w' B (fun _ => True) v1 s1) ∧ Aside0 (up_ (impl_toy_HashChildren.f k a0 a1 a2 a3 a4 a5) idx (l.drop i) i s1 = some r) ∧ Aside0 (Below w.heap.size w w'))
  case atStart => exact ⟨0, s, rfl, ⟨by omega⟩, HS, H, ⟨Below.refl _ _⟩⟩
  case round =>
    clear HS H
    obtain ⟨i, s1, rfl, HI, HS, H, HB⟩ := hrel
    cases gk with
    | zero =>
      have ei : i = l.length := by have := HI.out; omega
      subst ei
      have hr := H.out
      rw [List.drop_of_length_le (Nat.le_refl _)] at hr
      obtain rfl := Option.some.inj hr
      go_wp2
      go_ret
      exact ⟨_, rfl, HS.out, HB.out⟩
    | succ k1 =>
      have hi : i < l.length := by have := HI.out; omega
      have hd := H.out
      rw [drop_rd hi] at hd
      have c1 : decide (i < l.length) = true := decide_eq_true hi
      have c2 : decide ((i : Int) < (l.length : Int)) = true := decide_eq_true (by omega)
      obtain ⟨ad, A1, d1, e1, hx1, hl1, hi1⟩ := at_L1 HR.out (i : Int) (by omega) (by omega)
      cases e1
      have hx1' : w.cell? (ad.add i) = some (.slice A1 (rd_L1 l (i : Int)).length d1) := hx1
      have hx2 := (HB.out.cell (World.block_lt_of_cell? w _ hx1')).trans hx1'
      have hi64 : i < 9223372036854775807 := by have := HL.out; omega
      obtain ⟨As, cs, rfl⟩ := Kd.R_slice HS.out
      obtain ⟨_, hcs, hCs⟩ := Kd.R_reads' HS.out
      have HCS := Aside0.mk hcs
      have HCR := Aside0.mk hCs
      have HX := Aside0.mk (Kd.C_below hi1 HB.out)
      have HXL := Aside0.mk hl1
      have hsz := HB.out.size
      have HSZ := Aside0.mk (Nat.le_trans HBB.out hsz)
      clear hcs hCs hi1 hl1 hsz
      rw [up_] at hd
      obtain ⟨t, ht, hd⟩ := Option.bind_eq_some_iff.mp hd
      have HD := Aside0.mk hd
      by_cases c9 : Go.bits .and .u64 (shr .u64 idx (i : Int)) 1 = 0
      · rw [if_pos c9] at ht
        have b9 : (Go.bits .and .u64 (idx / 2 ^ min i 64) 1 == 0) = true := beq_iff_eq.mpr c9
        have HT := Aside0.mk ht
        clear ht hd c9
        go_wp2_with (fail)
        refine (impl_toy_HashChildren.calls k a0 a1 a2 a3 a4 a5 As cs s1 A1 d1 (rd_L1 l (i : Int)) t _ HCR.out HCS.out HX.out HXL.out HT.out).mono ?_
        rintro e w4 ⟨v4, rfl, hR4, hb⟩
        have HR4 := Aside0.mk (Kd.R_lower hR4 HSZ.out)
        have HB4 := Aside0.mk (HB.out.trans (hb.mono HB.out.size))
        clear hR4 hb
        dsimp only
        go_wp2
        go_roundg k1
        case measure => omega
        case rel => exact ⟨i + 1, t, by first | rfl | (rw [nxt hi64]) | (congr 1), ⟨by have := HI.out; omega⟩, HR4, HD, HB4⟩
      · rw [if_neg c9] at ht
        have b9 : (Go.bits .and .u64 (idx / 2 ^ min i 64) 1 == 0) = false := beq_eq_false_iff_ne.mpr c9
        have HT := Aside0.mk ht
        clear ht hd c9
        go_wp2_with (fail)
        refine (impl_toy_HashChildren.calls k a0 a1 a2 a3 a4 a5 A1 d1 (rd_L1 l (i : Int)) As cs s1 t _ HX.out HXL.out HCR.out HCS.out HT.out).mono ?_
        rintro e w4 ⟨v4, rfl, hR4, hb⟩
        have HR4 := Aside0.mk (Kd.R_lower hR4 HSZ.out)
        have HB4 := Aside0.mk (HB.out.trans (hb.mono HB.out.size))
        clear hR4 hb
        dsimp only
        go_wp2
        go_roundg k1
        case measure => omega
        case rel => exact ⟨i + 1, t, by first | rfl | (rw [nxt hi64]) | (congr 1), ⟨by have := HI.out; omega⟩, HR4, HD, HB4⟩
set_option maxHeartbeats 8000000 in
set_option maxRecDepth 100000 in
theorem chainInnerRight.calls (k : Nat) (a0 a1 a2 a3 a4 a5 : Int) (v : Value) (s : List Int) (A : Option Addr) (c : Nat) (l : List (List Int)) (idx : Int) (r : List Int) (w : World) (B : Nat) (hB : B ≤ w.heap.size) (hs : Kd.R (Kd.int .u8) 5 w B (fun _ => True) v s) (hr : Kd.C (Kd.slice 5 (Kd.int .u8)) w A l.length l) (hc : l.length ≤ c)
    (h : upR_ (impl_toy_HashChildren.f k a0 a1 a2 a3 a4 a5) idx l 0 s = some r) :
    Calls Try.prog 32 #[.iface 44 (.agg #[.int .i64 a0, .int .i64 a1, .int .i64 a2, .int .u64 a3, .int .u64 a4, .int .u64 a5]), v, .slice A l.length c, .int .u64 idx] w fun e w' => ∃ v0_, e = .returned v0_ ∧ Kd.R (Kd.int .u8) 5 w' B (fun _ => True) v0_ r ∧ Below w.heap.size w w' := by
  have HL := Aside0.mk hr.2.1
  have HR := Aside0.mk hr
  have HC := Aside0.mk hc
  have HS := Aside0.mk hs
  have H := Aside0.mk h
  have HBB := Aside0.mk hB
  clear hr hc hs h hB
  have hm := meth a0 a1 a2 a3 a4 a5
  go_enter Try.func32, Try.ntmps32
  go_wp2
  try simp only [Act.put, List.setIfInBounds_toArray, List.set_cons_zero, List.set_cons_succ]
  go_loopg [1, 13] l.length (fun kq v1 v13 w' => ∃ (i : Nat) (s1 : List Int), v13 = .int .i64 (i : Int) ∧ Aside0 (i + kq = l.length) ∧ Aside0 (Kd.R (Kd.int .u8) 5 w' B (fun _ => True) v1 s1) ∧ Aside0 (upR_ (impl_toy_HashChildren.f k a0 a1 a2 a3 a4 a5) idx (l.drop i) i s1 = some r) ∧ Aside0 (Below w.heap.size w w'))
  case atStart => exact ⟨0, s, rfl, ⟨by omega⟩, HS, H, ⟨Below.refl _ _⟩⟩
  case round =>
    clear HS H
    obtain ⟨i, s1, rfl, HI, HS, H, HB⟩ := hrel
    cases gk with
    | zero =>
      have ei : i = l.length := by have := HI.out; omega
      subst ei
      have hr := H.out
      rw [List.drop_of_length_le (Nat.le_refl _)] at hr
      obtain rfl := Option.some.inj hr
      go_wp2
      go_ret
      exact ⟨_, rfl, HS.out, HB.out⟩
    | succ k1 =>
      have hi : i < l.length := by have := HI.out; omega
      have hd := H.out
      rw [drop_rd hi] at hd
      have c1 : decide (i < l.length) = true := decide_eq_true hi
      have c2 : decide ((i : Int) < (l.length : Int)) = true := decide_eq_true (by omega)
      obtain ⟨ad, A1, d1, e1, hx1, hl1, hi1⟩ := at_L1 HR.out (i : Int) (by omega) (by omega)
      cases e1
      have hx1' : w.cell? (ad.add i) = some (.slice A1 (rd_L1 l (i : Int)).length d1) := hx1
      have hx2 := (HB.out.cell (World.block_lt_of_cell? w _ hx1')).trans hx1'
      have hi64 : i < 9223372036854775807 := by have := HL.out; omega
      obtain ⟨As, cs, rfl⟩ := Kd.R_slice HS.out
      obtain ⟨_, hcs, hCs⟩ := Kd.R_reads' HS.out
      have HCS := Aside0.mk hcs
      have HCR := Aside0.mk hCs
      have HX := Aside0.mk (Kd.C_below hi1 HB.out)
      have HXL := Aside0.mk hl1
      have hsz := HB.out.size
      have HSZ := Aside0.mk (Nat.le_trans HBB.out hsz)
      clear hcs hCs hi1 hl1 hsz
      rw [upR_] at hd
      obtain ⟨t, ht, hd⟩ := Option.bind_eq_some_iff.mp hd
      have HD := Aside0.mk hd
      by_cases c9 : Go.bits .and .u64 (shr .u64 idx (i : Int)) 1 = 1
      · rw [if_pos c9] at ht
        have b9 : (Go.bits .and .u64 (idx / 2 ^ min i 64) 1 == 1) = true := beq_iff_eq.mpr c9
        have HT := Aside0.mk ht
        clear ht hd c9
        go_wp2_with (fail)
        refine (impl_toy_HashChildren.calls k a0 a1 a2 a3 a4 a5 A1 d1 (rd_L1 l (i : Int)) As cs s1 t _ HX.out HXL.out HCR.out HCS.out HT.out).mono ?_
        rintro e w4 ⟨v4, rfl, hR4, hb⟩
        have HR4 := Aside0.mk (Kd.R_lower hR4 HSZ.out)
        have HB4 := Aside0.mk (HB.out.trans (hb.mono HB.out.size))
        clear hR4 hb
        dsimp only
        go_wp2
        go_roundg k1
        case measure => omega
        case rel => exact ⟨i + 1, t, by first | rfl | (rw [nxt hi64]) | (congr 1), ⟨by have := HI.out; omega⟩, HR4, HD, HB4⟩
      · rw [if_neg c9] at ht
        have b9 : (Go.bits .and .u64 (idx / 2 ^ min i 64) 1 == 1) = false := beq_eq_false_iff_ne.mpr c9
        obtain rfl := Option.some.inj ht
        clear ht hd c9
        go_wp2
        go_roundg k1
        case measure => omega
        case rel => exact ⟨i + 1, s1, by first | rfl | (rw [nxt hi64]) | (congr 1), ⟨by have := HI.out; omega⟩, HS, HD, HB⟩
set_option maxHeartbeats 8000000 in
set_option maxRecDepth 100000 in
theorem chainBorder.calls (k : Nat) (a0 a1 a2 a3 a4 a5 : Int) (v : Value) (s : List Int) (A : Option Addr) (c : Nat) (l : List (List Int)) (r : List Int) (w : World) (B : Nat) (hB : B ≤ w.heap.size) (hs : Kd.R (Kd.int .u8) 5 w B (fun _ => True) v s) (hr : Kd.C (Kd.slice 5 (Kd.int .u8)) w A l.length l) (hc : l.length ≤ c)
    (h : upB_ (impl_toy_HashChildren.f k a0 a1 a2 a3 a4 a5) l s = some r) :
    Calls Try.prog 33 #[.iface 44 (.agg #[.int .i64 a0, .int .i64 a1, .int .i64 a2, .int .u64 a3, .int .u64 a4, .int .u64 a5]), v, .slice A l.length c] w fun e w' => ∃ v0_, e = .returned v0_ ∧ Kd.R (Kd.int .u8) 5 w' B (fun _ => True) v0_ r ∧ Below w.heap.size w w' := by
  have HL := Aside0.mk hr.2.1
  have HR := Aside0.mk hr
  have HC := Aside0.mk hc
  have HS := Aside0.mk hs
  have H := Aside0.mk h
  have HBB := Aside0.mk hB
  clear hr hc hs h hB
  have hm := meth a0 a1 a2 a3 a4 a5
  go_enter Try.func33, Try.ntmps33
  go_wp2
  try simp only [Act.put, List.setIfInBounds_toArray, List.set_cons_zero, List.set_cons_succ]
  go_loopg [1, 11] l.length (fun kq v1 v11 w' => ∃ (i : Nat) (s1 : List Int), v11 = .int .i64 (i : Int) ∧ Aside0 (i + kq = l.length) ∧ Aside0 (Kd.R (Kd.int .u8) 5 w' B (fun _ => True) v1 s1) ∧ Aside0 (upB_ (impl_toy_HashChildren.f k a0 a1 a2 a3 a4 a5) (l.drop i) s1 = some r) ∧ Aside0 (Below w.heap.size w w'))
  case atStart => exact ⟨0, s, rfl, ⟨by omega⟩, HS, H, ⟨Below.refl _ _⟩⟩
  case round =>
    clear HS H
    obtain ⟨i, s1, rfl, HI, HS, H, HB⟩ := hrel
    cases gk with
    | zero =>
      have ei : i = l.length := by have := HI.out; omega
      subst ei
      have hr := H.out
      rw [List.drop_of_length_le (Nat.le_refl _)] at hr
      obtain rfl := Option.some.inj hr
      go_wp2
      go_ret
      exact ⟨_, rfl, HS.out, HB.out⟩
    | succ k1 =>
      have hi : i < l.length := by have := HI.out; omega
      have hd := H.out
      rw [drop_rd hi] at hd
      have c1 : decide (i < l.length) = true := decide_eq_true hi
      have c2 : decide ((i : Int) < (l.length : Int)) = true := decide_eq_true (by omega)
      obtain ⟨ad, A1, d1, e1, hx1, hl1, hi1⟩ := at_L1 HR.out (i : Int) (by omega) (by omega)
      cases e1
      have hx1' : w.cell? (ad.add i) = some (.slice A1 (rd_L1 l (i : Int)).length d1) := hx1
      have hx2 := (HB.out.cell (World.block_lt_of_cell? w _ hx1')).trans hx1'
      have hi64 : i < 9223372036854775807 := by have := HL.out; omega
      obtain ⟨As, cs, rfl⟩ := Kd.R_slice HS.out
      obtain ⟨_, hcs, hCs⟩ := Kd.R_reads' HS.out
      have HCS := Aside0.mk hcs
      have HCR := Aside0.mk hCs
      have HX := Aside0.mk (Kd.C_below hi1 HB.out)
      have HXL := Aside0.mk hl1
      have hsz := HB.out.size
      have HSZ := Aside0.mk (Nat.le_trans HBB.out hsz)
      clear hcs hCs hi1 hl1 hsz
      rw [upB_] at hd
      obtain ⟨t, ht, hd⟩ := Option.bind_eq_some_iff.mp hd
      have HD := Aside0.mk hd
      have HT := Aside0.mk ht
      clear ht hd
      go_wp2_with (fail)
      refine (impl_toy_HashChildren.calls k a0 a1 a2 a3 a4 a5 A1 d1 (rd_L1 l (i : Int)) As cs s1 t _ HX.out HXL.out HCR.out HCS.out HT.out).mono ?_
      rintro e w4 ⟨v4, rfl, hR4, hb⟩
      have HR4 := Aside0.mk (Kd.R_lower hR4 HSZ.out)
      have HB4 := Aside0.mk (HB.out.trans (hb.mono HB.out.size))
      clear hR4 hb
      dsimp only
      go_wp2
      go_roundg k1
      case measure => omega
      case rel => exact ⟨i + 1, t, by first | rfl | (rw [nxt hi64]) | (congr 1), ⟨by have := HI.out; omega⟩, HR4, HD, HB4⟩
end Go.Proofs.Ytbfhmcgiamnliaa.PAll
