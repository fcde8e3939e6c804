-- Written by a program of this session (wip/tools)
import Derived.Test.YtielnphmcaecdaaDoorQTTExtRangeA3
import Derived.Outline
import Derived.Deep.QuietTactic
import Derived.BigQuiet
import Derived.Deep.RegionWith
import Derived.IntWalk
import Derived.Test.YtielnphmcaecdaaDoorQTTExtRangeN
import Derived.Test.YtielnphmcaecdaaDoorQTTExtTreeB
import Derived.Deep.RegionHeldLaw
set_option maxHeartbeats 8000000
set_option maxRecDepth 100000
set_option linter.unusedVariables false
set_option linter.unusedSimpArgs false
namespace Go.Proofs.YtielnphmcaecdaaDoor.PAll
open Go.RowKit Go.Proofs.YtielnphmcaecdaaDoorW.PrintWords Go.Proofs.YtielnphmcaecdaaDoorW.PrintLast Go.Proofs.YtielnphmcaecdaaDoorW.PrintMore
def TxC (w : World) (v : Value) (s : List Int) : Prop := ∃ A c, v = .slice A s.length c ∧ s.length ≤ c ∧ Kd.C (Kd.int .u8) w A s.length s
theorem TxC.of_R {w : World} {B : Nat} {ok : Nat → Prop} {v : Value} {s : List Int} (h : Kd.R (Kd.int .u8) 5 w B ok v s) : TxC w v s := by
 obtain ⟨A, c, rfl⟩ := Kd.R_slice h
 obtain ⟨_, hc, hC⟩ := Kd.R_reads' h
 exact ⟨A, c, rfl, hc, hC⟩
theorem TxC.below {w w' : World} {v : Value} {s : List Int} (h : TxC w v s) (hb : Below w.heap.size w w') : TxC w' v s := by
 obtain ⟨A, c, rfl, hc, hC⟩ := h
 exact ⟨A, c, rfl, hc, Kd.C_below hC hb⟩
def up_ (H : List Int → List Int → Option (List Int)) (idx : Int) : List (List Int) → Nat → List Int → Option (List Int)
 | [], _, s => some s
 | x :: xs, i, s => (if Go.bits .and .u64 (shr .u64 idx (i : Int)) 1 = 0 then H s x else H x s).bind fun t => up_ H idx xs (i + 1) t
theorem vdrop_rd {l : List (List Int)} {i : Nat} (h : i < l.length) : l.drop i = rd_L1 l (i : Int) :: l.drop (i + 1) := by
 rw [List.drop_eq_getElem_cons h]
 congr 1
 show _ = l.getD i []
 rw [List.getD_eq_getElem?_getD, List.getElem?_eq_getElem h]; rfl
theorem vnxt {i : Nat} (h : i < 9223372036854775807) : wrap64 ((i : Int) + 1) = ((i + 1 : Nat) : Int) := by unfold wrap64; omega
def upR_ (H : List Int → List Int → Option (List Int)) (idx : Int) : List (List Int) → Nat → List Int → Option (List Int)
 | [], _, s => some s
 | x :: xs, i, s => (if Go.bits .and .u64 (shr .u64 idx (i : Int)) 1 = 1 then H x s else some s).bind fun t => upR_ H idx xs (i + 1) t
theorem chainInner.calls (k : Nat) (a0 a1 a2 a3 a4 a5 : Int) (v : Value) (s : List Int) (A : Option Addr) (c : Nat) (l : List (List Int)) (idx : Int) (r : List Int) (w : World) (hs : TxC w v s) (hr : Kd.C (Kd.slice 5 (Kd.int .u8)) w A l.length l) (hc : l.length ≤ c)
 (h : up_ (impl_toy_HashChildren.f k a0 a1 a2 a3 a4 a5) idx l 0 s = some r) :
 Calls Tryd.prog 106 #[.iface 82 (.agg #[.int .i64 a0, .int .i64 a1, .int .i64 a2, .int .u64 a3, .int .u64 a4, .int .u64 a5]), v, .slice A l.length c, .int .u64 idx] w fun e w' => ∃ v0_, e = .returned v0_ ∧ TxC w' v0_ r ∧ Below w.heap.size w w' := by
 have HL := Aside0.mk hr.2.1
 have HR := Aside0.mk hr
 have HC := Aside0.mk hc
 have HS := Aside0.mk hs
 have H := Aside0.mk h
 clear hr hc hs h
 have hm := methHC a0 a1 a2 a3 a4 a5
 go_enter Tryd.func106, Tryd.ntmps106
 go_wp2
 try simp only [Act.put, List.setIfInBounds_toArray, List.set_cons_zero, List.set_cons_succ]
 go_loopg [1, 13] l.length (fun kq v1 v13 w' => ∃ (i : Nat) (s1 : List Int), v13 = .int .i64 (i : Int) ∧ Aside0 (i + kq = l.length) ∧ Aside0 (TxC w' v1 s1) ∧ Aside0 (up_ (impl_toy_HashChildren.f k a0 a1 a2 a3 a4 a5) idx (l.drop i) i s1 = some r) ∧ Aside0 (Below w.heap.size w w'))
 case atStart => exact ⟨0, s, rfl, ⟨by omega⟩, HS, H, ⟨Below.refl _ _⟩⟩
 case round =>
  clear HS H
  obtain ⟨i, s1, rfl, HI, HS, H, HB⟩ := hrel
  cases gk with
  | zero =>
   have ei : i = l.length := by have := HI.out; omega
   subst ei
   have hr := H.out
   rw [List.drop_of_length_le (Nat.le_refl _)] at hr
   obtain rfl := Option.some.inj hr
   go_wp2
   go_ret
   exact ⟨_, rfl, HS.out, HB.out⟩
  | succ k1 =>
   have hi : i < l.length := by have := HI.out; omega
   have hd := H.out
   rw [vdrop_rd hi] at hd
   have c1 : decide (i < l.length) = true := decide_eq_true hi
   have c2 : decide ((i : Int) < (l.length : Int)) = true := decide_eq_true (by omega)
   obtain ⟨ad, A1, d1, e1, hx1, hl1, hi1⟩ := at_L1 HR.out (i : Int) (by omega) (by omega)
   cases e1
   have hx1' : w.cell? (ad.add i) = some (.slice A1 (rd_L1 l (i : Int)).length d1) := hx1
   have hx2 := (HB.out.cell (World.block_lt_of_cell? w _ hx1')).trans hx1'
   have hi64 : i < 9223372036854775807 := by have := HL.out; omega
   obtain ⟨As, cs, rfl, hcs, hCs⟩ := HS.out
   have HCS := Aside0.mk hcs
   have HCR := Aside0.mk hCs
   have HX := Aside0.mk (Kd.C_below hi1 HB.out)
   have HXL := Aside0.mk hl1
   clear hcs hCs hi1 hl1
   rw [up_] at hd
   obtain ⟨t, ht, hd⟩ := Option.bind_eq_some_iff.mp hd
   have HD := Aside0.mk hd
   by_cases c9 : Go.bits .and .u64 (shr .u64 idx (i : Int)) 1 = 0
   ·rw [if_pos c9] at ht
    have b9 : (Go.bits .and .u64 (idx / 2 ^ min i 64) 1 == 0) = true := beq_iff_eq.mpr c9
    have HT := Aside0.mk ht
    clear ht hd c9
    go_wp2_with (fail)
    refine (impl_toy_HashChildren.calls k a0 a1 a2 a3 a4 a5 As cs s1 A1 d1 (rd_L1 l (i : Int)) t _ HCR.out HCS.out HX.out HXL.out HT.out).mono ?_
    rintro e w4 ⟨v4, rfl, hR4, hb⟩
    have HR4 := Aside0.mk (TxC.of_R hR4)
    have HB4 := Aside0.mk (HB.out.trans (hb.mono HB.out.size))
    clear hR4 hb
    dsimp only
    go_wp2
    go_roundg k1
    case measure => omega
    case rel => exact ⟨i + 1, t, by first | rfl | (rw [vnxt hi64]) | (congr 1), ⟨by have := HI.out; omega⟩, HR4, HD, HB4⟩
   ·rw [if_neg c9] at ht
    have b9 : (Go.bits .and .u64 (idx / 2 ^ min i 64) 1 == 0) = false := beq_eq_false_iff_ne.mpr c9
    have HT := Aside0.mk ht
    clear ht hd c9
    go_wp2_with (fail)
    refine (impl_toy_HashChildren.calls k a0 a1 a2 a3 a4 a5 A1 d1 (rd_L1 l (i : Int)) As cs s1 t _ HX.out HXL.out HCR.out HCS.out HT.out).mono ?_
    rintro e w4 ⟨v4, rfl, hR4, hb⟩
    have HR4 := Aside0.mk (TxC.of_R hR4)
    have HB4 := Aside0.mk (HB.out.trans (hb.mono HB.out.size))
    clear hR4 hb
    dsimp only
    go_wp2
    go_roundg k1
    case measure => omega
    case rel => exact ⟨i + 1, t, by first | rfl | (rw [vnxt hi64]) | (congr 1), ⟨by have := HI.out; omega⟩, HR4, HD, HB4⟩
theorem chainInnerRight.calls (k : Nat) (a0 a1 a2 a3 a4 a5 : Int) (v : Value) (s : List Int) (A : Option Addr) (c : Nat) (l : List (List Int)) (idx : Int) (r : List Int) (w : World) (hs : TxC w v s) (hr : Kd.C (Kd.slice 5 (Kd.int .u8)) w A l.length l) (hc : l.length ≤ c)
 (h : upR_ (impl_toy_HashChildren.f k a0 a1 a2 a3 a4 a5) idx l 0 s = some r) :
 Calls Tryd.prog 104 #[.iface 82 (.agg #[.int .i64 a0, .int .i64 a1, .int .i64 a2, .int .u64 a3, .int .u64 a4, .int .u64 a5]), v, .slice A l.length c, .int .u64 idx] w fun e w' => ∃ v0_, e = .returned v0_ ∧ TxC w' v0_ r ∧ Below w.heap.size w w' := by
 have HL := Aside0.mk hr.2.1
 have HR := Aside0.mk hr
 have HC := Aside0.mk hc
 have HS := Aside0.mk hs
 have H := Aside0.mk h
 clear hr hc hs h
 have hm := methHC a0 a1 a2 a3 a4 a5
 go_enter Tryd.func104, Tryd.ntmps104
 go_wp2
 try simp only [Act.put, List.setIfInBounds_toArray, List.set_cons_zero, List.set_cons_succ]
 go_loopg [1, 13] l.length (fun kq v1 v13 w' => ∃ (i : Nat) (s1 : List Int), v13 = .int .i64 (i : Int) ∧ Aside0 (i + kq = l.length) ∧ Aside0 (TxC w' v1 s1) ∧ Aside0 (upR_ (impl_toy_HashChildren.f k a0 a1 a2 a3 a4 a5) idx (l.drop i) i s1 = some r) ∧ Aside0 (Below w.heap.size w w'))
 case atStart => exact ⟨0, s, rfl, ⟨by omega⟩, HS, H, ⟨Below.refl _ _⟩⟩
 case round =>
  clear HS H
  obtain ⟨i, s1, rfl, HI, HS, H, HB⟩ := hrel
  cases gk with
  | zero =>
   have ei : i = l.length := by have := HI.out; omega
   subst ei
   have hr := H.out
   rw [List.drop_of_length_le (Nat.le_refl _)] at hr
   obtain rfl := Option.some.inj hr
   go_wp2
   go_ret
   exact ⟨_, rfl, HS.out, HB.out⟩
  | succ k1 =>
   have hi : i < l.length := by have := HI.out; omega
   have hd := H.out
   rw [vdrop_rd hi] at hd
   have c1 : decide (i < l.length) = true := decide_eq_true hi
   have c2 : decide ((i : Int) < (l.length : Int)) = true := decide_eq_true (by omega)
   obtain ⟨ad, A1, d1, e1, hx1, hl1, hi1⟩ := at_L1 HR.out (i : Int) (by omega) (by omega)
   cases e1
   have hx1' : w.cell? (ad.add i) = some (.slice A1 (rd_L1 l (i : Int)).length d1) := hx1
   have hx2 := (HB.out.cell (World.block_lt_of_cell? w _ hx1')).trans hx1'
   have hi64 : i < 9223372036854775807 := by have := HL.out; omega
   obtain ⟨As, cs, rfl, hcs, hCs⟩ := HS.out
   have HCS := Aside0.mk hcs
   have HCR := Aside0.mk hCs
   have HX := Aside0.mk (Kd.C_below hi1 HB.out)
   have HXL := Aside0.mk hl1
   clear hcs hCs hi1 hl1
   rw [upR_] at hd
   obtain ⟨t, ht, hd⟩ := Option.bind_eq_some_iff.mp hd
   have HD := Aside0.mk hd
   by_cases c9 : Go.bits .and .u64 (shr .u64 idx (i : Int)) 1 = 1
   ·rw [if_pos c9] at ht
    have b9 : (Go.bits .and .u64 (idx / 2 ^ min i 64) 1 == 1) = true := beq_iff_eq.mpr c9
    have HT := Aside0.mk ht
    clear ht hd c9
    go_wp2_with (fail)
    refine (impl_toy_HashChildren.calls k a0 a1 a2 a3 a4 a5 A1 d1 (rd_L1 l (i : Int)) As cs s1 t _ HX.out HXL.out HCR.out HCS.out HT.out).mono ?_
    rintro e w4 ⟨v4, rfl, hR4, hb⟩
    have HR4 := Aside0.mk (TxC.of_R hR4)
    have HB4 := Aside0.mk (HB.out.trans (hb.mono HB.out.size))
    clear hR4 hb
    dsimp only
    go_wp2
    go_roundg k1
    case measure => omega
    case rel => exact ⟨i + 1, t, by first | rfl | (rw [vnxt hi64]) | (congr 1), ⟨by have := HI.out; omega⟩, HR4, HD, HB4⟩
   ·rw [if_neg c9] at ht
    have b9 : (Go.bits .and .u64 (idx / 2 ^ min i 64) 1 == 1) = false := beq_eq_false_iff_ne.mpr c9
    obtain rfl := Option.some.inj ht
    clear ht hd c9
    go_wp2
    go_roundg k1
    case measure => omega
    case rel => exact ⟨i + 1, s1, by first | rfl | (rw [vnxt hi64]) | (congr 1), ⟨by have := HI.out; omega⟩, HS, HD, HB⟩
theorem chainBorder.calls (k : Nat) (a0 a1 a2 a3 a4 a5 : Int) (v : Value) (s : List Int) (A : Option Addr) (c : Nat) (l : List (List Int)) (r : List Int) (w : World) (hs : TxC w v s) (hr : Kd.C (Kd.slice 5 (Kd.int .u8)) w A l.length l) (hc : l.length ≤ c)
 (h : upB_ (impl_toy_HashChildren.f k a0 a1 a2 a3 a4 a5) l s = some r) :
 Calls Tryd.prog 105 #[.iface 82 (.agg #[.int .i64 a0, .int .i64 a1, .int .i64 a2, .int .u64 a3, .int .u64 a4, .int .u64 a5]), v, .slice A l.length c] w fun e w' => ∃ v0_, e = .returned v0_ ∧ TxC w' v0_ r ∧ Below w.heap.size w w' := by
 have HL := Aside0.mk hr.2.1
 have HR := Aside0.mk hr
 have HC := Aside0.mk hc
 have HS := Aside0.mk hs
 have H := Aside0.mk h
 clear hr hc hs h
 have hm := methHC a0 a1 a2 a3 a4 a5
 go_enter Tryd.func105, Tryd.ntmps105
 go_wp2
 try simp only [Act.put, List.setIfInBounds_toArray, List.set_cons_zero, List.set_cons_succ]
 go_loopg [1, 11] l.length (fun kq v1 v11 w' => ∃ (i : Nat) (s1 : List Int), v11 = .int .i64 (i : Int) ∧ Aside0 (i + kq = l.length) ∧ Aside0 (TxC w' v1 s1) ∧ Aside0 (upB_ (impl_toy_HashChildren.f k a0 a1 a2 a3 a4 a5) (l.drop i) s1 = some r) ∧ Aside0 (Below w.heap.size w w'))
 case atStart => exact ⟨0, s, rfl, ⟨by omega⟩, HS, H, ⟨Below.refl _ _⟩⟩
 case round =>
  clear HS H
  obtain ⟨i, s1, rfl, HI, HS, H, HB⟩ := hrel
  cases gk with
  | zero =>
   have ei : i = l.length := by have := HI.out; omega
   subst ei
   have hr := H.out
   rw [List.drop_of_length_le (Nat.le_refl _)] at hr
   obtain rfl := Option.some.inj hr
   go_wp2
   go_ret
   exact ⟨_, rfl, HS.out, HB.out⟩
  | succ k1 =>
   have hi : i < l.length := by have := HI.out; omega
   have hd := H.out
   rw [vdrop_rd hi] at hd
   have c1 : decide (i < l.length) = true := decide_eq_true hi
   have c2 : decide ((i : Int) < (l.length : Int)) = true := decide_eq_true (by omega)
   obtain ⟨ad, A1, d1, e1, hx1, hl1, hi1⟩ := at_L1 HR.out (i : Int) (by omega) (by omega)
   cases e1
   have hx1' : w.cell? (ad.add i) = some (.slice A1 (rd_L1 l (i : Int)).length d1) := hx1
   have hx2 := (HB.out.cell (World.block_lt_of_cell? w _ hx1')).trans hx1'
   have hi64 : i < 9223372036854775807 := by have := HL.out; omega
   obtain ⟨As, cs, rfl, hcs, hCs⟩ := HS.out
   have HCS := Aside0.mk hcs
   have HCR := Aside0.mk hCs
   have HX := Aside0.mk (Kd.C_below hi1 HB.out)
   have HXL := Aside0.mk hl1
   clear hcs hCs hi1 hl1
   rw [upB_] at hd
   obtain ⟨t, ht, hd⟩ := Option.bind_eq_some_iff.mp hd
   have HD := Aside0.mk hd
   have HT := Aside0.mk ht
   clear ht hd
   go_wp2_with (fail)
   refine (impl_toy_HashChildren.calls k a0 a1 a2 a3 a4 a5 A1 d1 (rd_L1 l (i : Int)) As cs s1 t _ HX.out HXL.out HCR.out HCS.out HT.out).mono ?_
   rintro e w4 ⟨v4, rfl, hR4, hb⟩
   have HR4 := Aside0.mk (TxC.of_R hR4)
   have HB4 := Aside0.mk (HB.out.trans (hb.mono HB.out.size))
   clear hR4 hb
   dsimp only
   go_wp2
   go_roundg k1
   case measure => omega
   case rel => exact ⟨i + 1, t, by first | rfl | (rw [vnxt hi64]) | (congr 1), ⟨by have := HI.out; omega⟩, HR4, HD, HB4⟩
end Go.Proofs.YtielnphmcaecdaaDoor.PAll
namespace Go.Proofs.YtielnphmcaecdaaDoor.PAll
open Go.IntWalk Go.RowKit Go.Proofs.YtielnphmcaecdaaDoorW.PrintWords Go.Proofs.YtielnphmcaecdaaDoorW.PrintLast Go.Proofs.YtielnphmcaecdaaDoorW.PrintMore
theorem errNew3.calls (s : ByteArray) (w : World) : Calls Tryd.prog 88 #[.string s] w fun e w' => ∃ a, e = .returned (.iface 173 (.pointer (some a))) ∧ Below w.heap.size w w' := by
 go_enter Tryd.func88, Tryd.ntmps88
 go_wp2
 go_ret
 exact ⟨_, rfl, by repeat (first | exact Below.refl _ _ | apply below_alloc | apply pw_below_drewN | apply below_drew1)⟩
def vmat (c e : List Int) : Int × List Int := if ((strOfNums c).toList == (strOfNums e).toList) = true then (0, []) else (1, c)
def OutV (w : World) (o : Int × List Int) (x : Value) : Prop :=
 (o = (0, []) ∧ x = .nilIface) ∨ (o = (2, []) ∧ ∃ a, x = .iface 173 (.pointer (some a))) ∨ (o.1 = 1 ∧ ∃ Ae ne ce A c, x = .iface 163 (.agg #[.slice Ae ne ce, .slice A o.2.length c]) ∧ o.2.length ≤ c ∧ Kd.C (Kd.int .u8) w A o.2.length o.2)
theorem verifyMatch.calls (A0 : Option Addr) (c0 : Nat) (l0 : List Int) (A1 : Option Addr) (c1 : Nat) (l1 : List Int) (w : World) (hr0 : Kd.C (Kd.int .u8) w A0 l0.length l0) (hc0 : l0.length ≤ c0) (hr1 : Kd.C (Kd.int .u8) w A1 l1.length l1) (hc1 : l1.length ≤ c1) :
 Calls Tryd.prog 102 #[.slice A0 l0.length c0, .slice A1 l1.length c1] w fun e w' => ∃ x, e = .returned x ∧ OutV w' (vmat l0 l1) x ∧ Below w.heap.size w w' := by
 have HR0 := Aside0.mk hr0
 have HR1 := Aside0.mk hr1
 have HC0 := Aside0.mk hc0
 have HC1 := Aside0.mk hc1
 clear hr0 hc0 hr1 hc1
 have HE := bytes_Equal.calls A0 c0 l0 A1 c1 l1 ((strOfNums l0).toList == (strOfNums l1).toList) w HR0.out HC0.out HR1.out HC1.out rfl
 unfold vmat
 generalize ((strOfNums l0).toList == (strOfNums l1).toList) = b at HE ⊢
 go_enter Tryd.func102, Tryd.ntmps102
 go_wp2_with (fail)
 refine HE.mono ?_
 rintro e w1 ⟨rfl, ⟨nd, rfl⟩⟩
 dsimp only
 cases b
 ·go_wp2
  go_ret
  exact ⟨_, rfl, Or.inr (Or.inr ⟨rfl, _, _, _, _, _, rfl, HC0.out, Kd.C_drewN HR0.out _⟩), pw_below_drewN (Below.refl _ _) _⟩
 ·go_wp2
  go_ret
  exact ⟨_, rfl, Or.inl ⟨rfl, rfl⟩, pw_below_drewN (Below.refl _ _) _⟩
theorem nil5 (w W : World) (hb : w.heap.size ≤ W.heap.size) (g : Nat) (hg : g = W.heap.size) : Kd.R (Kd.int .u8) 5 (W.alloc (Obj.cells #[] 5)) w.heap.size (fun _ => True) (.slice (some ⟨g, 0, none⟩) 0 0) [] := by
 subst hg
 exact Kd.R_of_own (enc := Value.int .u8) (xs := ([] : List Int)) ⟨rfl, .inr ⟨W.heap.size, 0, #[], rfl, hb, blk_new W _, Nat.le_refl _, by decide, rfl, rfl⟩⟩ (fun _ _ => trivial)
@[local go_sem] theorem as163 (v : Value) (w : World) : (Instr.typeAssert (.iface 163 v) 95 163 true).run Tryd.prog w = .ok (.tuple #[v, .bool true]) w := by kernel_rfl
@[local go_sem] theorem as173 (v : Value) (w : World) : (Instr.typeAssert (.iface 173 v) 95 163 true).run Tryd.prog w = .ok (.tuple #[.agg #[.slice none 0 0, .slice none 0 0], .bool false]) w := by kernel_rfl
theorem verdict.calls (o : Int × List Int) (x : Value) (w : World) (h : OutV w o x) (hlen : o.2.length < 140737488355328) :
 Calls Tryd.prog 74 #[x] w fun e w' => ∃ v, e = .returned (.tuple #[.int .i64 o.1, v]) ∧ Kd.R (Kd.int .u8) 5 w' w.heap.size (fun _ => True) v o.2 ∧ Below w.heap.size w w' := by
 rcases h with ⟨rfl, rfl⟩ | ⟨rfl, a, rfl⟩ | ⟨h1, Ae, ne, ce, A, c, rfl, hc, hr⟩
 ·go_enter Tryd.func74, Tryd.ntmps74
  go_wp2
  refine ⟨rfl, _, results_tmp2 (fn := Tryd.f74) rfl _ _ _, ?_⟩
  exact ⟨_, rfl, Kd.R_nil _ _ _ _ _, Below.refl _ _⟩
 ·go_enter Tryd.func74, Tryd.ntmps74
  go_wp2
  refine ⟨rfl, _, results_tmp2 (fn := Tryd.f74) rfl _ _ _, ?_⟩
  exact ⟨_, rfl, Kd.R_nil _ _ _ _ _, by repeat (first | exact Below.refl _ _ | apply below_alloc | apply pw_below_drewN | apply below_drew1)⟩
 ·obtain ⟨o1, o2⟩ := o
  dsimp only at h1 hr hc hlen ⊢
  subst h1
  have HR := Aside0.mk hr
  have HC := Aside0.mk hc
  have HL := Aside0.mk hlen
  clear hr hc hlen
  go_enter Tryd.func74, Tryd.ntmps74
  go_wp2_with (first
   | (
    (with_reducible refine gate_builtin (b := .append) (xs := #[.tmp 14, .tmp 16]) rfl ?_); at_builtin
    refine Kd.R_append_rows (Kd.int .u8) (w0 := w) w.heap.size rfl (.tmp 14) (.tmp 16) 27 5 (.int .u8 0) 1 rfl Tryd.underlying27 info5 rfl (by decide) (by omega) _ ([] : List Int) o2 _ _ _ (fun _ => True) (fun _ => False) rfl rfl ?aO ?aR (fun _ _ h => h) (fun _ h => h.elim) ?aF ?aB ?aS ?aL ?_
    (case aO => exact nil5 w (w.alloc _) (Nat.le_of_lt (by simp)) _ (by simp))
    (case aR => exact Kd.C_alloc (Kd.C_alloc HR.out _) _)
    (case aF => exact fun _ _ => trivial)
    (case aB => exact below_alloc (below_alloc (Below.refl _ _) _) _)
    (case aS => simp; omega)
    (case aL => have := HL.out; simp only [List.length_nil]; omega)
    intro v1 w1 hR1 hB1 hg1 hn1
    have HV1 := Aside0.mk hR1
    have HB1 := Aside0.mk hB1
    clear hR1 hB1 hg1 hn1))
  refine ⟨rfl, _, results_tmp2 (fn := Tryd.f74) rfl _ _ _, ?_⟩
  exact ⟨_, rfl, HV1.out, HB1.out⟩
def verT (H : List Int → List Int → Option (List Int)) (mask : Int) (i : Nat) (q : List Int) (l : List (List Int)) (r1 r2 : List Int) : Option (Int × List Int) :=
 (upR_ H mask (l.take i) 0 q).bind fun t => (upB_ H (l.drop i) t).bind fun h1 =>
  if ((strOfNums h1).toList == (strOfNums r1).toList) = true then (up_ H mask (l.take i) 0 q).bind fun u => (upB_ H (l.drop i) u).bind fun h2 => some (vmat h2 r2)
  else some (1, h1)
def verC (k : Nat) (H : List Int → List Int → Option (List Int)) (s n : Int) (l : List (List Int)) (r1 r2 : List Int) : Option (Int × List Int) :=
 if s = n then (if l.length = 0 then some (vmat r1 r2) else some (2, []))
 else if l.length = 0 then some (2, [])
 else (proof_decompInclProof.f k (s - 1) n).bind fun p => (bits_TrailingZeros64.f s).bind fun z =>
  if 0 ≤ z ∧ z ≤ 63 ∧ z ≤ p.1 ∧ 0 ≤ p.2 ∧ p.1 + p.2 < 1000000 then
   (
    if s = 2 ^ z.toNat then (if (l.length : Int) = (p.1 - z) + p.2 then verT H ((s - 1) / 2 ^ z.toNat) (p.1 - z).toNat r1 l r1 r2 else some (2, []))
    else (if (l.length : Int) = 1 + (p.1 - z) + p.2 then verT H ((s - 1) / 2 ^ z.toNat) (p.1 - z).toNat (rd_L1 l 0) (l.drop 1) r1 r2 else some (2, [])))
  else none
theorem pow_wrap {z : Nat} (h : z ≤ 63) : IntKind.u64.wrap (2 ^ z) = 2 ^ z := by
 have e : ∀ x : Int, IntKind.u64.wrap x = x % 18446744073709551616 := by intro x; simp [IntKind.wrap, IntKind.bits, IntKind.signed]
 rw [e]
 have h1 : (2 : Nat) ^ z ≤ 2 ^ 63 := Nat.pow_le_pow_right (by omega) h
 rw [show (2 : Nat) ^ 63 = 9223372036854775808 from rfl] at h1
 have h2 : ((2 : Int) ^ z) = ((2 ^ z : Nat) : Int) := (Int.natCast_pow 2 z).symm
 have h3 : ((2 ^ z : Nat) : Int) ≤ 9223372036854775808 := Int.ofNat_le.mpr h1
 have h4 : (0 : Int) ≤ ((2 ^ z : Nat) : Int) := Int.natCast_nonneg _
 rw [h2]
 generalize ((2 ^ z : Nat) : Int) = y at h3 h4 ⊢
 clear h1 h2 e
 omega
theorem verifyConsP.calls (k : Nat) (a0 a1 a2 a3 a4 a5 s n : Int) (A : Option Addr) (c : Nat) (l : List (List Int)) (A1 : Option Addr) (c1 : Nat) (r1 : List Int) (A2 : Option Addr) (c2 : Nat) (r2 : List Int) (o : Int × List Int) (w : World) (hG : Glob w)
 (hr : Kd.C (Kd.slice 5 (Kd.int .u8)) w A l.length l) (hc : l.length ≤ c) (hr1 : Kd.C (Kd.int .u8) w A1 r1.length r1) (hc1 : r1.length ≤ c1) (hr2 : Kd.C (Kd.int .u8) w A2 r2.length r2) (hc2 : r2.length ≤ c2)
 (hs : 1 ≤ s) (hn : s < n) (hn2 : n < 18446744073709551616) (hl0 : 0 < l.length) (m b : Int) (z i : Nat) (hmz : m - (z : Int) = (i : Int)) (hd : proof_decompInclProof.f k (s - 1) n = some (m, b)) (hz : bits_TrailingZeros64.f s = some (z : Int))
 (hz1 : z ≤ 63) (hb0 : 0 ≤ b) (hmb : (i : Int) + b < 1000000) (hp : s = 2 ^ z)
 (h : (if (l.length : Int) = (i : Int) + b then verT (impl_toy_HashChildren.f k a0 a1 a2 a3 a4 a5) ((s - 1) / 2 ^ z) i r1 l r1 r2 else some (2, [])) = some o) :
 Calls Tryd.prog 75 #[.iface 82 (.agg #[.int .i64 a0, .int .i64 a1, .int .i64 a2, .int .u64 a3, .int .u64 a4, .int .u64 a5]), .int .u64 s, .int .u64 n, .slice A l.length c, .slice A1 r1.length c1, .slice A2 r2.length c2] w fun e w' => ∃ x, e = .returned x ∧ OutV w' o x ∧ Below w.heap.size w w' := by
 obtain ⟨ad, A0, c0, eA, hx1, hl1, hi1⟩ := at_L1 hr (0 : Int) (by omega) (by omega)
 subst eA
 replace hx1 : w.cell? ad = some (.slice A0 (rd_L1 l (0 : Int)).length c0) := hx1
 have hmax : l.length ≤ 9223372036854775807 := hr.2.1
 obtain ⟨i0, hi0, _, hsz, _⟩ := info_parts info27
 have HC := Aside0.mk hc
 have HR := Aside0.mk hr
 have HR1 := Aside0.mk hr1
 have HC1 := Aside0.mk hc1
 have HR2 := Aside0.mk hr2
 have HC2 := Aside0.mk hc2
 have HD := Aside0.mk hd
 have HZ := Aside0.mk hz
 have HGL := Aside0.mk hG
 have HI1 := Aside0.mk hi1
 have HL1 := Aside0.mk hl1
 have HX1 := Aside0.mk hx1
 have g1 : decide (n < s) = false := decide_eq_false (by omega)
 have g2 : (s == n) = false := beq_eq_false_iff_ne.mpr (by omega)
 have g3 : (s == 0) = false := beq_eq_false_iff_ne.mpr (by omega)
 have g4 : ((l.length : Int) == 0) = false := beq_eq_false_iff_ne.mpr (by omega)
 have g5 : IntKind.u64.wrap (s - 1) = s - 1 := by
  have e : IntKind.u64.wrap (s - 1) = (s - 1) % 18446744073709551616 := by simp [IntKind.wrap, IntKind.bits, IntKind.signed]
  rw [e]; omega
 have g6 : wrap64 (m - z) = m - z := by unfold wrap64; omega
 have HMZ := Aside0.mk hmz
 have hzm : (z : Int) ≤ m := by omega
 have hmm : m < 2000000 := by omega
 have hmb2 : m + b < 2000000 := by omega
 have g7 : (s == IntKind.u64.wrap (2 ^ z)) = true := beq_iff_eq.mpr (by rw [pow_wrap hz1]; exact hp)
 clear hc hr hr1 hc1 hr2 hc2 hd hz hG hi1 hl1 hx1 hp
 by_cases hlen : (l.length : Int) = (i : Int) + b
 ·rw [if_pos hlen] at h
  have g8 : ((l.length : Int) != m - (z : Int) + b) = false := bne_eq_false_iff_eq.mpr (by omega)
  have H' := h
  have hrL := HR.out
  have hcL2 := HC.out
  have hLl := hlen
  unfold verT at H'
  obtain ⟨t, ht, H'⟩ := Option.bind_eq_some_iff.mp H'
  obtain ⟨h1, hh1, H'⟩ := Option.bind_eq_some_iff.mp H'
  have hcut1 := cut_to (P := Tryd.prog) 25 27 .i64 Tryd.underlying25 hi0 (some ad) l.length c (i : Int) (by omega) (by omega) hcL2
  have hcut2 := cut_from (P := Tryd.prog) 25 27 .i64 Tryd.underlying25 hi0 1 hsz (some ad) l.length c (i : Int) (by omega) (by omega)
  have hi : i ≤ l.length := by omega
  have hT1 := Kd.C_take (m := i) hrL hi
  have hT2 := Kd.C_drop (m := i) (c := c) hrL hi hcL2
  have ht1 : (l.take i).length = i := by rw [List.length_take]; omega
  have ht2 : (l.drop i).length = l.length - i := by rw [List.length_drop]
  have hc1 : (l.take i).length ≤ c := by omega
  have hc2 : (l.drop i).length ≤ c - i := by omega
  obtain ⟨x1, hx1⟩ : ∃ x1, x1 = l.take i := ⟨_, rfl⟩
  obtain ⟨x2, hx2⟩ : ∃ x2, x2 = l.drop i := ⟨_, rfl⟩
  obtain ⟨Ad, hAd⟩ : ∃ Ad, Ad = (if c = i then (some ad) else ((some ad) : Option Addr).map (·.add (i * 1))) := ⟨_, rfl⟩
  obtain ⟨cd, hcd⟩ : ∃ cd, cd = c - i := ⟨_, rfl⟩
  rw [← hx1] at hT1 ht1 hc1 ht H'
  rw [← hx2] at hT2 ht2 hc2 hh1 H'
  replace hT2 : Kd.C (Kd.slice 5 (Kd.int .u8)) w Ad x2.length x2 := by rw [hAd]; exact hT2
  rw [Int.toNat_natCast] at hcut1 hcut2
  replace hcut1 : ∀ W : World, (Instr.slice 25 (.slice (some ad) l.length c) none (some (.int .i64 (m - (z : Int)))) none).run Tryd.prog W = .ok (.slice (some ad) x1.length c) W := by intro W; rw [ht1, hmz]; exact hcut1 W
  replace hcut2 : ∀ W : World, (Instr.slice 25 (.slice (some ad) l.length c) (some (.int .i64 (m - (z : Int)))) none none).run Tryd.prog W = .ok (.slice Ad x2.length cd) W := by intro W; rw [ht2, hAd, hcd, hmz]; exact hcut2 W
  rw [← hcd] at hc2
  have hti : (i : Int) = (x1.length : Int) := by rw [ht1]
  have HT1 := Aside0.mk hT1
  have HT2 := Aside0.mk hT2
  have HCT1 := Aside0.mk hc1
  have HCT2 := Aside0.mk hc2
  have HT := Aside0.mk ht
  have HH1 := Aside0.mk hh1
  have H1 := Aside0.mk H'
  have HTI := Aside0.mk hti
  have HTN := Aside0.mk ht1
  have HLE := Aside0.mk hlen
  have HLL := Aside0.mk hLl
  have HII := Aside0.mk hi
  clear h hmz hlen hLl hi hi0 hsz hcL2 H' ht hh1 hT1 hT2 hc1 hc2 hx1 hx2 hAd hcd hti ht1 ht2 hrL
  go_enter Tryd.func75, Tryd.ntmps75
  go_wp2_with (fail)
  refine (proof_decompInclProof.calls k (s - 1) n _ b w HD.out).mono ?_
  rintro ex w1 ⟨rfl, ⟨d1, rfl⟩⟩
  dsimp only
  have HB1 := Aside0.mk (pw_below_drewN (Below.refl w.heap.size w) d1)
  generalize w.drewN d1 = W1 at HB1 ⊢
  go_wp2_with (fail)
  refine (bits_TrailingZeros64.calls _ _ W1 (HGL.out.below HB1.out) HZ.out).mono ?_
  rintro ex w2 ⟨rfl, ⟨d2, rfl⟩⟩
  dsimp only
  have HB := Aside0.mk (pw_below_drewN HB1.out d2)
  generalize W1.drewN d2 = W at HB ⊢
  have x1_ : W.cell? ad = some (.slice A0 (rd_L1 l (0 : Int)).length c0) := (HB.out.cell (World.block_lt_of_cell? w _ HX1.out)).trans HX1.out
  have HQ := Aside0.mk (show TxC W (.slice A1 r1.length c1) r1 from ⟨_, _, rfl, HC1.out, Kd.C_below HR1.out HB.out⟩)
  go_wp2_with (fail)
  refine (chainInnerRight.calls k a0 a1 a2 a3 a4 a5 (.slice A1 r1.length c1) r1 (some ad) c x1 ((s - 1) / 2 ^ z) t W HQ.out (Kd.C_below HT1.out HB.out) HCT1.out HT.out).mono ?_
  rintro e w3 ⟨v3, rfl, hR3, hb3⟩
  have HR3 := Aside0.mk hR3
  have HB3 := Aside0.mk (HB.out.trans (hb3.mono HB.out.size))
  replace HQ := Aside0.mk (HQ.out.below hb3)
  clear hR3 hb3
  dsimp only
  go_wp2_with (fail)
  refine (chainBorder.calls k a0 a1 a2 a3 a4 a5 v3 t Ad cd x2 h1 _ HR3.out (Kd.C_below HT2.out HB3.out) HCT2.out HH1.out).mono ?_
  rintro e w4 ⟨v4, rfl, hR4, hb4⟩
  have HB4 := Aside0.mk (HB3.out.trans (hb4.mono HB3.out.size))
  replace HQ := Aside0.mk (HQ.out.below hb4)
  obtain ⟨A4, c4, rfl, hc4, hR4⟩ := hR4
  have HR4 := Aside0.mk hR4
  have HC4 := Aside0.mk hc4
  clear hR4 hb4 hc4
  dsimp only
  go_wp2_with (fail)
  refine (verifyMatch.calls A4 c4 h1 A1 c1 r1 _ HR4.out HC4.out (Kd.C_below HR1.out HB4.out) HC1.out).mono ?_
  rintro e w5 ⟨v5, rfl, hV5, hb5⟩
  have HB5 := Aside0.mk (HB4.out.trans (hb5.mono HB4.out.size))
  replace HQ := Aside0.mk (HQ.out.below hb5)
  clear hb5
  have H2 := H1.out
  dsimp only
  by_cases heq : ((strOfNums h1).toList == (strOfNums r1).toList) = true
  ·rw [if_pos heq] at H2
   unfold vmat at hV5
   rw [if_pos heq] at hV5
   have hv5 : v5 = .nilIface := by
    rcases hV5 with ⟨_, h⟩ | ⟨h, _⟩ | ⟨h, _⟩
    ·exact h
    ·cases h
    ·cases h
   subst hv5
   obtain ⟨u, hu, H2⟩ := Option.bind_eq_some_iff.mp H2
   obtain ⟨h2, hh2, H2⟩ := Option.bind_eq_some_iff.mp H2
   obtain rfl := Option.some.inj H2
   have HU := Aside0.mk hu
   have HH2 := Aside0.mk hh2
   clear H1 H2 hV5 heq hu hh2
   go_wp2_with (fail)
   refine (chainInner.calls k a0 a1 a2 a3 a4 a5 (.slice A1 r1.length c1) r1 (some ad) c x1 ((s - 1) / 2 ^ z) u _ HQ.out (Kd.C_below HT1.out HB5.out) HCT1.out HU.out).mono ?_
   rintro e w6 ⟨v6, rfl, hR6, hb6⟩
   have HR6 := Aside0.mk hR6
   have HB6 := Aside0.mk (HB5.out.trans (hb6.mono HB5.out.size))
   clear hR6 hb6
   dsimp only
   go_wp2_with (fail)
   refine (chainBorder.calls k a0 a1 a2 a3 a4 a5 v6 u Ad cd x2 h2 _ HR6.out (Kd.C_below HT2.out HB6.out) HCT2.out HH2.out).mono ?_
   rintro e w7 ⟨v7, rfl, hR7, hb7⟩
   have HB7 := Aside0.mk (HB6.out.trans (hb7.mono HB6.out.size))
   obtain ⟨A7, c7, rfl, hc7, hR7⟩ := hR7
   have HR7 := Aside0.mk hR7
   have HC7 := Aside0.mk hc7
   clear hR7 hb7 hc7
   dsimp only
   go_wp2_with (fail)
   refine (verifyMatch.calls A7 c7 h2 A2 c2 r2 _ HR7.out HC7.out (Kd.C_below HR2.out HB7.out) HC2.out).mono ?_
   rintro e w8 ⟨v8, rfl, hV8, hb8⟩
   have HV8 := Aside0.mk hV8
   have HB8 := Aside0.mk (HB7.out.trans (hb8.mono HB7.out.size))
   clear hV8 hb8
   dsimp only
   go_wp2
   go_ret
   exact ⟨_, rfl, HV8.out, HB8.out⟩
  ·rw [if_neg heq] at H2
   obtain rfl := Option.some.inj H2
   unfold vmat at hV5
   rw [if_neg heq] at hV5
   have hv5 : ∃ Ae ne ce A c, v5 = .iface 163 (.agg #[.slice Ae ne ce, .slice A h1.length c]) ∧ h1.length ≤ c ∧ Kd.C (Kd.int .u8) w5 A h1.length h1 := by
    rcases hV5 with ⟨h, _⟩ | ⟨h, _⟩ | ⟨_, h⟩
    ·cases h
    ·cases h
    ·exact h
   obtain ⟨Ae, ne, ce, A9, c9, rfl, hc9, hC9⟩ := hv5
   have HC9 := Aside0.mk hc9
   have HR9 := Aside0.mk hC9
   clear H1 H2 hV5 heq hc9 hC9
   go_wp2
   go_ret
   exact ⟨_, rfl, Or.inr (Or.inr ⟨rfl, _, _, _, _, _, rfl, HC9.out, HR9.out⟩), HB5.out⟩
 ·rw [if_neg hlen] at h
  obtain rfl := Option.some.inj h
  have g8 : ((l.length : Int) != m - (z : Int) + b) = true := bne_iff_ne.mpr (by omega)
  clear h hmz hlen
  go_enter Tryd.func75, Tryd.ntmps75
  go_wp2_with (fail)
  refine (proof_decompInclProof.calls k (s - 1) n _ b w HD.out).mono ?_
  rintro ex w1 ⟨rfl, ⟨d1, rfl⟩⟩
  dsimp only
  have HB1 := Aside0.mk (pw_below_drewN (Below.refl w.heap.size w) d1)
  generalize w.drewN d1 = W1 at HB1 ⊢
  go_wp2_with (fail)
  refine (bits_TrailingZeros64.calls _ _ W1 (HGL.out.below HB1.out) HZ.out).mono ?_
  rintro ex w2 ⟨rfl, ⟨d2, rfl⟩⟩
  dsimp only
  have HB := Aside0.mk (pw_below_drewN HB1.out d2)
  generalize W1.drewN d2 = W at HB ⊢
  have x1_ : W.cell? ad = some (.slice A0 (rd_L1 l (0 : Int)).length c0) := (HB.out.cell (World.block_lt_of_cell? w _ HX1.out)).trans HX1.out
  go_wp2_with (fail)
  refine (errNew3.calls _ W).mono ?_
  rintro ex w3 ⟨a, rfl, hb⟩
  have HB3 := Aside0.mk (HB.out.trans (hb.mono HB.out.size))
  clear hb
  dsimp only
  go_wp2
  go_ret
  exact ⟨_, rfl, Or.inr (Or.inl ⟨rfl, _, rfl⟩), HB3.out⟩
theorem verifyConsN.calls (k : Nat) (a0 a1 a2 a3 a4 a5 s n : Int) (A : Option Addr) (c : Nat) (l : List (List Int)) (A1 : Option Addr) (c1 : Nat) (r1 : List Int) (A2 : Option Addr) (c2 : Nat) (r2 : List Int) (o : Int × List Int) (w : World) (hG : Glob w)
 (hr : Kd.C (Kd.slice 5 (Kd.int .u8)) w A l.length l) (hc : l.length ≤ c) (hr1 : Kd.C (Kd.int .u8) w A1 r1.length r1) (hc1 : r1.length ≤ c1) (hr2 : Kd.C (Kd.int .u8) w A2 r2.length r2) (hc2 : r2.length ≤ c2)
 (hs : 1 ≤ s) (hn : s < n) (hn2 : n < 18446744073709551616) (hl0 : 0 < l.length) (m b : Int) (z i : Nat) (hmz : m - (z : Int) = (i : Int)) (hd : proof_decompInclProof.f k (s - 1) n = some (m, b)) (hz : bits_TrailingZeros64.f s = some (z : Int))
 (hz1 : z ≤ 63) (hb0 : 0 ≤ b) (hmb : (i : Int) + b < 1000000) (hp : ¬ s = 2 ^ z)
 (h : (if (l.length : Int) = 1 + (i : Int) + b then verT (impl_toy_HashChildren.f k a0 a1 a2 a3 a4 a5) ((s - 1) / 2 ^ z) i (rd_L1 l 0) (l.drop 1) r1 r2 else some (2, [])) = some o) :
 Calls Tryd.prog 75 #[.iface 82 (.agg #[.int .i64 a0, .int .i64 a1, .int .i64 a2, .int .u64 a3, .int .u64 a4, .int .u64 a5]), .int .u64 s, .int .u64 n, .slice A l.length c, .slice A1 r1.length c1, .slice A2 r2.length c2] w fun e w' => ∃ x, e = .returned x ∧ OutV w' o x ∧ Below w.heap.size w w' := by
 obtain ⟨ad, A0, c0, eA, hx1, hl1, hi1⟩ := at_L1 hr (0 : Int) (by omega) (by omega)
 subst eA
 replace hx1 : w.cell? ad = some (.slice A0 (rd_L1 l (0 : Int)).length c0) := hx1
 have hmax : l.length ≤ 9223372036854775807 := hr.2.1
 obtain ⟨i0, hi0, _, hsz, _⟩ := info_parts info27
 have HC := Aside0.mk hc
 have HR := Aside0.mk hr
 have HR1 := Aside0.mk hr1
 have HC1 := Aside0.mk hc1
 have HR2 := Aside0.mk hr2
 have HC2 := Aside0.mk hc2
 have HD := Aside0.mk hd
 have HZ := Aside0.mk hz
 have HGL := Aside0.mk hG
 have HI1 := Aside0.mk hi1
 have HL1 := Aside0.mk hl1
 have HX1 := Aside0.mk hx1
 have g1 : decide (n < s) = false := decide_eq_false (by omega)
 have g2 : (s == n) = false := beq_eq_false_iff_ne.mpr (by omega)
 have g3 : (s == 0) = false := beq_eq_false_iff_ne.mpr (by omega)
 have g4 : ((l.length : Int) == 0) = false := beq_eq_false_iff_ne.mpr (by omega)
 have g5 : IntKind.u64.wrap (s - 1) = s - 1 := by
  have e : IntKind.u64.wrap (s - 1) = (s - 1) % 18446744073709551616 := by simp [IntKind.wrap, IntKind.bits, IntKind.signed]
  rw [e]; omega
 have g6 : wrap64 (m - z) = m - z := by unfold wrap64; omega
 have HMZ := Aside0.mk hmz
 have hzm : (z : Int) ≤ m := by omega
 have hmm : m < 2000000 := by omega
 have hmb2 : m + b < 2000000 := by omega
 have g7 : (s == IntKind.u64.wrap (2 ^ z)) = false := beq_eq_false_iff_ne.mpr (by rw [pow_wrap hz1]; exact hp)
 clear hc hr hr1 hc1 hr2 hc2 hd hz hG hi1 hl1 hx1 hp
 by_cases hlen : (l.length : Int) = 1 + (i : Int) + b
 ·rw [if_pos hlen] at h
  have g8 : ((l.length : Int) != 1 + (m - (z : Int)) + b) = false := bne_eq_false_iff_eq.mpr (by omega)
  have H' := h
  obtain ⟨L, hL⟩ : ∃ L, L = l.drop 1 := ⟨_, rfl⟩
  obtain ⟨AL, hAL⟩ : ∃ AL, AL = (if c = 1 then some ad else (some ad : Option Addr).map (·.add (1 * 1))) := ⟨_, rfl⟩
  obtain ⟨cL, hcL⟩ : ∃ cL, cL = c - 1 := ⟨_, rfl⟩
  have hLn : L.length = l.length - 1 := by rw [hL, List.length_drop]
  have hrL : Kd.C (Kd.slice 5 (Kd.int .u8)) w AL L.length L := by rw [hL, hAL]; exact Kd.C_drop (m := 1) (c := c) HR.out (by omega) HC.out
  have hcL2 : L.length ≤ cL := by have := HC.out; omega
  have hLl : (L.length : Int) = (i : Int) + b := by omega
  have hcut0 := cut_from (P := Tryd.prog) 25 27 .i64 Tryd.underlying25 hi0 1 hsz (some ad) l.length c 1 (by omega) (by omega)
  replace hcut0 : ∀ W : World, (Instr.slice 25 (.slice (some ad) l.length c) (some (.int .i64 1)) none none).run Tryd.prog W = .ok (.slice AL L.length cL) W := by
   intro W
   rw [hcut0 W, hLn, hAL, hcL]
   rfl
  rw [← hL] at H'
  unfold verT at H'
  obtain ⟨t, ht, H'⟩ := Option.bind_eq_some_iff.mp H'
  obtain ⟨h1, hh1, H'⟩ := Option.bind_eq_some_iff.mp H'
  have hcut1 := cut_to (P := Tryd.prog) 25 27 .i64 Tryd.underlying25 hi0 AL L.length cL (i : Int) (by omega) (by omega) hcL2
  have hcut2 := cut_from (P := Tryd.prog) 25 27 .i64 Tryd.underlying25 hi0 1 hsz AL L.length cL (i : Int) (by omega) (by omega)
  have hi : i ≤ L.length := by omega
  have hT1 := Kd.C_take (m := i) hrL hi
  have hT2 := Kd.C_drop (m := i) (c := cL) hrL hi hcL2
  have ht1 : (L.take i).length = i := by rw [List.length_take]; omega
  have ht2 : (L.drop i).length = L.length - i := by rw [List.length_drop]
  have hc1 : (L.take i).length ≤ cL := by omega
  have hc2 : (L.drop i).length ≤ cL - i := by omega
  obtain ⟨x1, hx1⟩ : ∃ x1, x1 = L.take i := ⟨_, rfl⟩
  obtain ⟨x2, hx2⟩ : ∃ x2, x2 = L.drop i := ⟨_, rfl⟩
  obtain ⟨Ad, hAd⟩ : ∃ Ad, Ad = (if cL = i then AL else (AL : Option Addr).map (·.add (i * 1))) := ⟨_, rfl⟩
  obtain ⟨cd, hcd⟩ : ∃ cd, cd = cL - i := ⟨_, rfl⟩
  rw [← hx1] at hT1 ht1 hc1 ht H'
  rw [← hx2] at hT2 ht2 hc2 hh1 H'
  replace hT2 : Kd.C (Kd.slice 5 (Kd.int .u8)) w Ad x2.length x2 := by rw [hAd]; exact hT2
  rw [Int.toNat_natCast] at hcut1 hcut2
  replace hcut1 : ∀ W : World, (Instr.slice 25 (.slice AL L.length cL) none (some (.int .i64 (m - (z : Int)))) none).run Tryd.prog W = .ok (.slice AL x1.length cL) W := by intro W; rw [ht1, hmz]; exact hcut1 W
  replace hcut2 : ∀ W : World, (Instr.slice 25 (.slice AL L.length cL) (some (.int .i64 (m - (z : Int)))) none none).run Tryd.prog W = .ok (.slice Ad x2.length cd) W := by intro W; rw [ht2, hAd, hcd, hmz]; exact hcut2 W
  rw [← hcd] at hc2
  have hti : (i : Int) = (x1.length : Int) := by rw [ht1]
  have HT1 := Aside0.mk hT1
  have HT2 := Aside0.mk hT2
  have HCT1 := Aside0.mk hc1
  have HCT2 := Aside0.mk hc2
  have HT := Aside0.mk ht
  have HH1 := Aside0.mk hh1
  have H1 := Aside0.mk H'
  have HTI := Aside0.mk hti
  have HTN := Aside0.mk ht1
  have HLE := Aside0.mk hlen
  have HLL := Aside0.mk hLl
  have HII := Aside0.mk hi
  clear h hmz hlen hLl hi hi0 hsz hcL2 H' ht hh1 hT1 hT2 hc1 hc2 hx1 hx2 hAd hcd hL hAL hcL hLn hti ht1 ht2 hrL
  go_enter Tryd.func75, Tryd.ntmps75
  go_wp2_with (fail)
  refine (proof_decompInclProof.calls k (s - 1) n _ b w HD.out).mono ?_
  rintro ex w1 ⟨rfl, ⟨d1, rfl⟩⟩
  dsimp only
  have HB1 := Aside0.mk (pw_below_drewN (Below.refl w.heap.size w) d1)
  generalize w.drewN d1 = W1 at HB1 ⊢
  go_wp2_with (fail)
  refine (bits_TrailingZeros64.calls _ _ W1 (HGL.out.below HB1.out) HZ.out).mono ?_
  rintro ex w2 ⟨rfl, ⟨d2, rfl⟩⟩
  dsimp only
  have HB := Aside0.mk (pw_below_drewN HB1.out d2)
  generalize W1.drewN d2 = W at HB ⊢
  have x1_ : W.cell? ad = some (.slice A0 (rd_L1 l (0 : Int)).length c0) := (HB.out.cell (World.block_lt_of_cell? w _ HX1.out)).trans HX1.out
  have HQ := Aside0.mk (show TxC W (.slice A0 (rd_L1 l 0).length c0) (rd_L1 l 0) from ⟨_, _, rfl, HL1.out, Kd.C_below HI1.out HB.out⟩)
  go_wp2_with (fail)
  refine (chainInnerRight.calls k a0 a1 a2 a3 a4 a5 (.slice A0 (rd_L1 l 0).length c0) (rd_L1 l 0) AL cL x1 ((s - 1) / 2 ^ z) t W HQ.out (Kd.C_below HT1.out HB.out) HCT1.out HT.out).mono ?_
  rintro e w3 ⟨v3, rfl, hR3, hb3⟩
  have HR3 := Aside0.mk hR3
  have HB3 := Aside0.mk (HB.out.trans (hb3.mono HB.out.size))
  replace HQ := Aside0.mk (HQ.out.below hb3)
  clear hR3 hb3
  dsimp only
  go_wp2_with (fail)
  refine (chainBorder.calls k a0 a1 a2 a3 a4 a5 v3 t Ad cd x2 h1 _ HR3.out (Kd.C_below HT2.out HB3.out) HCT2.out HH1.out).mono ?_
  rintro e w4 ⟨v4, rfl, hR4, hb4⟩
  have HB4 := Aside0.mk (HB3.out.trans (hb4.mono HB3.out.size))
  replace HQ := Aside0.mk (HQ.out.below hb4)
  obtain ⟨A4, c4, rfl, hc4, hR4⟩ := hR4
  have HR4 := Aside0.mk hR4
  have HC4 := Aside0.mk hc4
  clear hR4 hb4 hc4
  dsimp only
  go_wp2_with (fail)
  refine (verifyMatch.calls A4 c4 h1 A1 c1 r1 _ HR4.out HC4.out (Kd.C_below HR1.out HB4.out) HC1.out).mono ?_
  rintro e w5 ⟨v5, rfl, hV5, hb5⟩
  have HB5 := Aside0.mk (HB4.out.trans (hb5.mono HB4.out.size))
  replace HQ := Aside0.mk (HQ.out.below hb5)
  clear hb5
  have H2 := H1.out
  dsimp only
  by_cases heq : ((strOfNums h1).toList == (strOfNums r1).toList) = true
  ·rw [if_pos heq] at H2
   unfold vmat at hV5
   rw [if_pos heq] at hV5
   have hv5 : v5 = .nilIface := by
    rcases hV5 with ⟨_, h⟩ | ⟨h, _⟩ | ⟨h, _⟩
    ·exact h
    ·cases h
    ·cases h
   subst hv5
   obtain ⟨u, hu, H2⟩ := Option.bind_eq_some_iff.mp H2
   obtain ⟨h2, hh2, H2⟩ := Option.bind_eq_some_iff.mp H2
   obtain rfl := Option.some.inj H2
   have HU := Aside0.mk hu
   have HH2 := Aside0.mk hh2
   clear H1 H2 hV5 heq hu hh2
   go_wp2_with (fail)
   refine (chainInner.calls k a0 a1 a2 a3 a4 a5 (.slice A0 (rd_L1 l 0).length c0) (rd_L1 l 0) AL cL x1 ((s - 1) / 2 ^ z) u _ HQ.out (Kd.C_below HT1.out HB5.out) HCT1.out HU.out).mono ?_
   rintro e w6 ⟨v6, rfl, hR6, hb6⟩
   have HR6 := Aside0.mk hR6
   have HB6 := Aside0.mk (HB5.out.trans (hb6.mono HB5.out.size))
   clear hR6 hb6
   dsimp only
   go_wp2_with (fail)
   refine (chainBorder.calls k a0 a1 a2 a3 a4 a5 v6 u Ad cd x2 h2 _ HR6.out (Kd.C_below HT2.out HB6.out) HCT2.out HH2.out).mono ?_
   rintro e w7 ⟨v7, rfl, hR7, hb7⟩
   have HB7 := Aside0.mk (HB6.out.trans (hb7.mono HB6.out.size))
   obtain ⟨A7, c7, rfl, hc7, hR7⟩ := hR7
   have HR7 := Aside0.mk hR7
   have HC7 := Aside0.mk hc7
   clear hR7 hb7 hc7
   dsimp only
   go_wp2_with (fail)
   refine (verifyMatch.calls A7 c7 h2 A2 c2 r2 _ HR7.out HC7.out (Kd.C_below HR2.out HB7.out) HC2.out).mono ?_
   rintro e w8 ⟨v8, rfl, hV8, hb8⟩
   have HV8 := Aside0.mk hV8
   have HB8 := Aside0.mk (HB7.out.trans (hb8.mono HB7.out.size))
   clear hV8 hb8
   dsimp only
   go_wp2
   go_ret
   exact ⟨_, rfl, HV8.out, HB8.out⟩
  ·rw [if_neg heq] at H2
   obtain rfl := Option.some.inj H2
   unfold vmat at hV5
   rw [if_neg heq] at hV5
   have hv5 : ∃ Ae ne ce A c, v5 = .iface 163 (.agg #[.slice Ae ne ce, .slice A h1.length c]) ∧ h1.length ≤ c ∧ Kd.C (Kd.int .u8) w5 A h1.length h1 := by
    rcases hV5 with ⟨h, _⟩ | ⟨h, _⟩ | ⟨_, h⟩
    ·cases h
    ·cases h
    ·exact h
   obtain ⟨Ae, ne, ce, A9, c9, rfl, hc9, hC9⟩ := hv5
   have HC9 := Aside0.mk hc9
   have HR9 := Aside0.mk hC9
   clear H1 H2 hV5 heq hc9 hC9
   go_wp2
   go_ret
   exact ⟨_, rfl, Or.inr (Or.inr ⟨rfl, _, _, _, _, _, rfl, HC9.out, HR9.out⟩), HB5.out⟩
 ·rw [if_neg hlen] at h
  obtain rfl := Option.some.inj h
  have g8 : ((l.length : Int) != 1 + (m - (z : Int)) + b) = true := bne_iff_ne.mpr (by omega)
  clear h hmz hlen
  go_enter Tryd.func75, Tryd.ntmps75
  go_wp2_with (fail)
  refine (proof_decompInclProof.calls k (s - 1) n _ b w HD.out).mono ?_
  rintro ex w1 ⟨rfl, ⟨d1, rfl⟩⟩
  dsimp only
  have HB1 := Aside0.mk (pw_below_drewN (Below.refl w.heap.size w) d1)
  generalize w.drewN d1 = W1 at HB1 ⊢
  go_wp2_with (fail)
  refine (bits_TrailingZeros64.calls _ _ W1 (HGL.out.below HB1.out) HZ.out).mono ?_
  rintro ex w2 ⟨rfl, ⟨d2, rfl⟩⟩
  dsimp only
  have HB := Aside0.mk (pw_below_drewN HB1.out d2)
  generalize W1.drewN d2 = W at HB ⊢
  have x1_ : W.cell? ad = some (.slice A0 (rd_L1 l (0 : Int)).length c0) := (HB.out.cell (World.block_lt_of_cell? w _ HX1.out)).trans HX1.out
  go_wp2_with (fail)
  refine (errNew3.calls _ W).mono ?_
  rintro ex w3 ⟨a, rfl, hb⟩
  have HB3 := Aside0.mk (HB.out.trans (hb.mono HB.out.size))
  clear hb
  dsimp only
  go_wp2
  go_ret
  exact ⟨_, rfl, Or.inr (Or.inl ⟨rfl, _, rfl⟩), HB3.out⟩
theorem verifyCons.calls (k : Nat) (a0 a1 a2 a3 a4 a5 s n : Int) (A : Option Addr) (c : Nat) (l : List (List Int)) (A1 : Option Addr) (c1 : Nat) (r1 : List Int) (A2 : Option Addr) (c2 : Nat) (r2 : List Int) (o : Int × List Int) (w : World) (hG : Glob w)
 (hr : Kd.C (Kd.slice 5 (Kd.int .u8)) w A l.length l) (hc : l.length ≤ c) (hr1 : Kd.C (Kd.int .u8) w A1 r1.length r1) (hc1 : r1.length ≤ c1) (hr2 : Kd.C (Kd.int .u8) w A2 r2.length r2) (hc2 : r2.length ≤ c2)
 (hs : 1 ≤ s) (hn : s ≤ n) (hn2 : n < 18446744073709551616) (h : verC k (impl_toy_HashChildren.f k a0 a1 a2 a3 a4 a5) s n l r1 r2 = some o) :
 Calls Tryd.prog 75 #[.iface 82 (.agg #[.int .i64 a0, .int .i64 a1, .int .i64 a2, .int .u64 a3, .int .u64 a4, .int .u64 a5]), .int .u64 s, .int .u64 n, .slice A l.length c, .slice A1 r1.length c1, .slice A2 r2.length c2] w fun e w' => ∃ x, e = .returned x ∧ OutV w' o x ∧ Below w.heap.size w w' := by
 unfold verC at h
 by_cases h1 : s = n
 ·subst h1
  rw [if_pos rfl] at h
  have g1 : decide (s < s) = false := decide_eq_false (by omega)
  have g2 : (s == s) = true := beq_iff_eq.mpr rfl
  by_cases h2 : l.length = 0
  ·rw [if_pos h2] at h
   obtain rfl := Option.some.inj h
   have HR1 := Aside0.mk hr1
   have HC1 := Aside0.mk hc1
   have HR2 := Aside0.mk hr2
   have HC2 := Aside0.mk hc2
   have g4 : decide ((l.length : Int) > 0) = false := decide_eq_false (by omega)
   have g5 : decide (0 < (l.length : Int)) = false := decide_eq_false (by omega)
   have g6 : decide (0 < l.length) = false := decide_eq_false (by omega)
   clear hr hc hr1 hc1 hr2 hc2 h h2
   go_enter Tryd.func75, Tryd.ntmps75
   go_wp2_with (fail)
   refine (verifyMatch.calls A1 c1 r1 A2 c2 r2 w HR1.out HC1.out HR2.out HC2.out).mono ?_
   rintro e w8 ⟨v8, rfl, hV8, hb8⟩
   have HV8 := Aside0.mk hV8
   have HB8 := Aside0.mk hb8
   clear hV8 hb8
   dsimp only
   go_wp2
   go_ret
   exact ⟨_, rfl, HV8.out, HB8.out⟩
  ·rw [if_neg h2] at h
   obtain rfl := Option.some.inj h
   have g4 : decide ((l.length : Int) > 0) = true := decide_eq_true (by omega)
   have g5 : decide (0 < (l.length : Int)) = true := decide_eq_true (by omega)
   have g6 : decide (0 < l.length) = true := decide_eq_true (by omega)
   clear hr hc hr1 hc1 hr2 hc2 h h2
   go_enter Tryd.func75, Tryd.ntmps75
   go_wp2_with (fail)
   refine (errNew3.calls _ w).mono ?_
   rintro ex w3 ⟨a, rfl, hb⟩
   have HB3 := Aside0.mk hb
   clear hb
   dsimp only
   go_wp2
   go_ret
   exact ⟨_, rfl, Or.inr (Or.inl ⟨rfl, _, rfl⟩), HB3.out⟩
 ·rw [if_neg h1] at h
  by_cases h2 : l.length = 0
  ·rw [if_pos h2] at h
   obtain rfl := Option.some.inj h
   have g1 : decide (n < s) = false := decide_eq_false (by omega)
   have g2 : (s == n) = false := beq_eq_false_iff_ne.mpr (by omega)
   have g3 : (s == 0) = false := beq_eq_false_iff_ne.mpr (by omega)
   have g4 : ((l.length : Int) == 0) = true := beq_iff_eq.mpr (by omega)
   clear hr hc hr1 hc1 hr2 hc2 h h2
   go_enter Tryd.func75, Tryd.ntmps75
   go_wp2_with (fail)
   refine (errNew3.calls _ w).mono ?_
   rintro ex w3 ⟨a, rfl, hb⟩
   have HB3 := Aside0.mk hb
   clear hb
   dsimp only
   go_wp2
   go_ret
   exact ⟨_, rfl, Or.inr (Or.inl ⟨rfl, _, rfl⟩), HB3.out⟩
  ·rw [if_neg h2] at h
   obtain ⟨⟨m, b⟩, hd, h⟩ := Option.bind_eq_some_iff.mp h
   obtain ⟨z, hz, h⟩ := Option.bind_eq_some_iff.mp h
   dsimp only at h
   by_cases h3 : 0 ≤ z ∧ z ≤ 63 ∧ z ≤ m ∧ 0 ≤ b ∧ m + b < 1000000
   case neg => rw [if_neg h3] at h; cases h
   rw [if_pos h3] at h
   obtain ⟨z, rfl⟩ : ∃ y : Nat, z = (y : Int) := ⟨z.toNat, by omega⟩
   obtain ⟨i, hi⟩ : ∃ y : Nat, m - (z : Int) = (y : Int) := ⟨(m - z).toNat, by omega⟩
   rw [Int.toNat_natCast, hi, Int.toNat_natCast] at h
   by_cases h4 : s = 2 ^ z
   ·rw [if_pos h4] at h
    exact verifyConsP.calls k a0 a1 a2 a3 a4 a5 s n A c l A1 c1 r1 A2 c2 r2 o w hG hr hc hr1 hc1 hr2 hc2 hs (by omega) hn2 (by omega) m b z i hi hd hz (by omega) (by omega) (by omega) h4 h
   ·rw [if_neg h4] at h
    exact verifyConsN.calls k a0 a1 a2 a3 a4 a5 s n A c l A1 c1 r1 A2 c2 r2 o w hG hr hc hr1 hc1 hr2 hc2 hs (by omega) hn2 (by omega) m b z i hi hd hz (by omega) (by omega) (by omega) h4 h
theorem load_none (W : World) (ad : Addr) : (loadCells ad 0).run Tryd.prog W = .ok #[] W := by
 simp [loadCells, loadCellsFrom]
theorem append_same (W : World) (A : Option Addr) (m c : Nat) (ad : Addr) (ty : TypeId) (hm : 0 < m) (hl : m ≤ 140737488355328) :
 (Builtin.append_ #[27, 27] ty #[.slice (some ad) 0 0, .slice A m c]).run Tryd.prog W = (Builtin.append_ #[27, 27] ty #[.slice none 0 0, .slice A m c]).run Tryd.prog W := by
 obtain ⟨i0, hi, _, hsz, hb⟩ := info_parts info5
 have hno : ¬ m ≤ 0 := by omega
 have hn0 : ¬ m = 0 := by omega
 have hbig : ¬ (9223372036854775807 : Int) < (m : Int) := by omega
 have hcap : Builtin.nextslicecap m 0 = m := by unfold Builtin.nextslicecap; rw [if_pos (by omega)]
 have hb2 : ¬ 281474976710656 < m := by omega
 simp [Builtin.append_, run_underlying Tryd.underlying27, sizeOf, typeInfo, hi, hsz, hb, Builtin.lenOf, Builtin.firstCells, hno, hn0, hbig, hcap, hb2, load_none]
theorem append_text (W : World) (A : Option Addr) (m c : Nat) (ad : Addr) (ty : TypeId) (ys : List Int) (hC : Kd.C (Kd.int .u8) W A m ys) (hl : m ≤ 140737488355328) :
 ∃ v1 w1, (Builtin.append_ #[27, 27] ty #[.slice (some ad) 0 0, .slice A m c]).run Tryd.prog W = .ok v1 w1 ∧ TxC w1 v1 ys ∧ Below W.heap.size W w1 := by
 obtain ⟨i0, hi, hz0, hsz, hb⟩ := info_parts info5
 rcases Nat.eq_zero_or_pos m with h0 | h0
 ·subst h0
  obtain rfl : ys = [] := List.eq_nil_of_length_eq_zero hC.1
  refine ⟨.slice (some ad) 0 0, W, ?_, ⟨some ad, 0, rfl, Nat.le_refl _, rfl, by simp, fun h => absurd h (by simp)⟩, Below.refl _ _⟩
  cases A <;> simp [Builtin.append_, run_underlying Tryd.underlying27, sizeOf, typeInfo, hi, hsz, hb, Builtin.lenOf, Builtin.firstCells, load_none, storeCells]
 ·rw [append_same W A m c ad ty h0 hl]
  obtain ⟨ad2, rfl, _⟩ := hC.2.2 h0
  obtain ⟨news, hnr, hnc⟩ := ReadsRow.inner_ hC
  have hlen : news.length = m * 1 := by rw [hnr.1, hC.1]; rfl
  have hone : ∀ u ∈ news, u.oneCell' = true := by
   intro u hu
   obtain ⟨q, hq, rfl⟩ := List.mem_iff_getElem.1 hu
   have hql : q < ys.length := by rw [hC.1]; omega
   have hc := hnr.2 q _ (List.getElem?_eq_getElem hql)
   refine (Kd.int .u8).K_one hc _ ?_
   rw [List.mem_iff_getElem?]
   refine ⟨0, ?_⟩
   rw [List.getElem?_take, if_pos (by decide), List.getElem?_drop]
   show news[q * 1 + 0]? = _
   rw [Nat.mul_one, Nat.add_zero, List.getElem?_eq_getElem hq]
  obtain ⟨v1, w1, hrun, h2, hg, _, hat⟩ := run_append_own_at (P := Tryd.prog) (w := W) W.heap.size 27 ty 5 i0 (.int .u8 0) 1 1 Tryd.underlying27 hi hz0 hsz hb rfl (by decide) (.slice none 0 0) 0 [] ⟨rfl, .inl ⟨rfl, rfl⟩⟩ ad2 m c news hlen hnc hone (by simp only [maxLen]; omega) (by omega) (Nat.le_refl _)
  refine ⟨v1, w1, hrun, ?_, ?_⟩
  ·refine TxC.of_R (B := W.heap.size) (ok := fun _ => True) ⟨fun _ _ => trivial, [] ++ news, ?_, ?_⟩
   ·have hy : ys.length = 0 + m := by rw [hC.1, Nat.zero_add]
    rw [hy]; exact h2
   ·rw [List.nil_append]; exact hnr
  ·exact (Below.refl _ _).grown hg (Nat.le_refl _) (fun b hb => by cases hb)
theorem append_text_step {ops : Array Oper} {o : Oper} {a : Act} {Q : Exit → Act → World → Prop} {Kc : Act → World → Prop} {W : World} (hw : Region.wanted o (yielded ops a.tmps) = true) (s x : Operand)
 (ho : o.op = .call { callee := .builtin .append, args := #[s, x], argTypes := #[27, 27] }) (ad : Addr) (A : Option Addr) (m c : Nat) (ys : List Int) (hs : a.eval s = .slice (some ad) 0 0) (hx : a.eval x = .slice A m c)
 (hC : Kd.C (Kd.int .u8) W A m ys) (hl : m ≤ 140737488355328) (h : ∀ v1 w1, TxC w1 v1 ys → Below W.heap.size W w1 → Kc (a.put o.dst v1) w1) :
 if Region.wanted o (yielded ops a.tmps) = true then Oper.wp Tryd.prog o a W Kc Q else Kc (a.put o.dst undef) W := by
 obtain ⟨v1, w1, hr1, h1, h2⟩ := append_text W A m c ad o.type ys hC hl
 rw [if_pos hw]
 unfold Oper.wp execOp
 simp only [ho, resolve, invoke, builtin, Sem.run_bind, Sem.run_pure, Result.andThen_ok, List.map_toArray, List.map_cons, List.map_nil, hs, hx, hr1]
 exact h v1 w1 h1 h2
end Go.Proofs.YtielnphmcaecdaaDoor.PAll
