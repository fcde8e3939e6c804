-- Written by a program of this session (wip/tools)
import Derived.Test.YtielnphmcaecdaaDoorQCSExtTreeB
import Derived.Outline
import Derived.Deep.QuietTactic
import Derived.BigQuiet
import Derived.Deep.RegionWith
import Derived.Deep.RegionLaw
import Derived.IntWalk
import Derived.Test.YtielnphmcaecdaaDoorQCSPAllx0
import Derived.Test.YtielnphmcaecdaaDoorQCSPAllx4
import Derived.Test.YtielnphmcaecdaaDoorQCSExtTz
import Derived.Test.YtielnphmcaecdaaDoorQCSV0
import Derived.Laws.BitsAllLaws
import Derived.Test.YtielnphmcaecdaaDoorQCSMath
import Derived.Laws.Bits128
import Derived.KernelRfl
namespace Go.Proofs.YtielnphmcaecdaaDoor.PAll
open Go.RowKit Go.Proofs.YtielnphmcaecdaaDoor.Mth Go.Proofs.YtielnphmcaecdaaDoorW.PrintWords Go.Proofs.YtielnphmcaecdaaDoorW.PrintLast Go.Proofs.YtielnphmcaecdaaDoorW.PrintMore
set_option linter.unusedVariables false
set_option maxHeartbeats 8000000 in
theorem treeNew.calls (u : Value) (w : World) : Calls Tryd.prog 43 #[.iface 82 u] w fun e w' => e = .returned (.pointer (some ⟨w.heap.size, 0, none⟩)) ∧ w' = w.alloc (Obj.cells #[.iface 82 u, .int .u64 0, .slice none 0 0] 137) := by
  go_enter Tryd.func43, Tryd.ntmps43
  go_wp2
  go_ret
  exact ⟨rfl, rfl⟩
theorem Frm.row {base g : Nat} {w w' : World} {tb : Nat} {v : Value} {ss : List SH} (h : Frm base g w w') (hR : Rw w tb v ss) (hb : w.heap.size ≤ base) (hg : v.ownBlock ≠ some g) : Rw w' tb v ss :=
  Kd.R_mono (Kd.R_step (Kd.R_tight rfl hR) (fun k hk hlt => h.block k (by omega) (fun e => hg (by rw [← hk, e])))) (fun _ _ => trivial)
theorem grew_trans {tb base g : Nat} {hv : Value} {i : Nat} {val : Nat → Nat → List Int} {w w1 w2 : World} (hF : Frm base g w w1) (hP : Pres5 w w1) (hG : Grew tb base g hv ((i : Int) + 1) (i + 1) val w1 w2) : Grew tb base g hv ((i + 1 : Nat) : Int) (i + 1) val w w2 := by
  obtain ⟨H, hs, rows, hT, hlen, hmid, hF2, hP2⟩ := hG
  exact ⟨H, hs, rows, hT, hlen, hmid, hF.trans hF2, hP.trans hP2⟩
set_option maxHeartbeats 16000000 in
set_option maxRecDepth 100000 in
theorem treeAppend.calls (k : Nat) (a0 a1 a2 a3 a4 a5 : Int) (tb g : Nat) (val : Nat → Nat → List Int) (A : Option Addr) (c : Nat) (ss : List SH) (n : Nat) (w : World) (htb : tb ≤ w.heap.size) (hg0 : g < w.heap.size) (hn : n < 1099511627776) (hss : ss.length = n)
    (T : TreeAt w tb w.heap.size g (.iface 82 (toyV a0 a1 a2 a3 a4 a5)) 0 (none, 0, 0) [] [] val) (hR : Rw w tb (.slice A n c) ss) (hX : ∀ (j : Nat) (s : SH), ss[j]? = some s → Txt tb w s (val 0 j))
    (hval : ∀ m i, m < n → (∀ j, j ≤ i → m / 2 ^ j % 2 = 1) → impl_toy_HashChildren.f k a0 a1 a2 a3 a4 a5 (val i (m / 2 ^ i - 1)) (val i (m / 2 ^ i)) = some (val (i + 1) (m / 2 ^ (i + 1)))) :
    Calls Tryd.prog 44 #[.pointer (some ⟨g, 0, none⟩), .slice A n c] w fun e w' => e = .returned (.tuple #[]) ∧ Grew tb w.heap.size g (.iface 82 (toyV a0 a1 a2 a3 a4 a5)) (n : Int) n val w w' := by
  have HTB := Aside0.mk htb
  have HG0 := Aside0.mk hg0
  have HN := Aside0.mk hn
  have HSS := Aside0.mk hss
  have HT := Aside0.mk T
  have HR := Aside0.mk hR
  have HX := Aside0.mk hX
  have HV := Aside0.mk hval
  have HGN := Aside0.mk (show (Value.slice A n c).ownBlock ≠ some g from fun e => by
    obtain ⟨cells, hc⟩ := Kd.R_typed hR g e
    exact blk_other T.cell hc (by decide) rfl)
  have hnl : (n : Int) ≤ 1099511627776 := by omega
  clear htb hg0 hn hss T hR hX hval
  go_enter Tryd.func44, Tryd.ntmps44
  go_wp2
  try simp only [Act.put, List.setIfInBounds_toArray, List.set_cons_zero, List.set_cons_succ]
  go_loopg [8] n (fun kq v8 w' => ∃ (i : Nat), v8 = .int .i64 (i : Int) ∧ Aside0 (i + kq = n) ∧ Aside0 (Grew tb w.heap.size g (.iface 82 (toyV a0 a1 a2 a3 a4 a5)) (i : Int) i val w w'))
  case atStart => exact ⟨0, rfl, ⟨by omega⟩, ⟨(none, 0, 0), [], [], HT.out, by rw [blen_zero]; rfl, fun i rs h => by simp at h, Frm.refl _ _ _, Pres5.refl _⟩⟩
  case round =>
    clear HT
    obtain ⟨i, rfl, HI, HGr⟩ := hrel
    obtain ⟨H, hs, rows, hT, hlen, hmid, hF, hP⟩ := HGr.out
    cases gk with
    | zero =>
      have ei : i = n := by have := HI.out; omega
      subst ei
      clear hT hlen hmid hF hP
      go_wp2
      go_end0
      exact ⟨rfl, HGr.out⟩
    | succ k1 =>
      have hi : i < n := by have := HI.out; omega
      obtain ⟨⟨As, ns, cs⟩, hs1⟩ : ∃ s, ss[i]? = some s := ⟨_, List.getElem?_eq_getElem (by have := HSS.out; omega)⟩
      have hRow := hF.row HR.out (Nat.le_refl _) HGN.out
      obtain ⟨gL, cL, eL, _⟩ := kSH_form (s := (A, n, c)) hRow (by have := HSS.out; omega)
      simp only [Prod.mk.injEq] at eL
      obtain ⟨rfl, -, rfl⟩ := eL
      obtain ⟨x1, _⟩ := kSH_cell hRow hs1
      replace x1 : World.cell? _ _ = some (.slice As ns cs) := x1
      have hTx := (HX.out i _ hs1).pres hP
      have d0 : 0 ≤ (i : Int) := by omega
      have d1 : (i : Int) < (n : Int) := by omega
      have d2 : decide ((i : Int) < (n : Int)) = true := decide_eq_true d1
      have d3 : decide (i < n) = true := decide_eq_true hi
      have HT := Aside0.mk hT
      have HLEN := Aside0.mk hlen
      have HMID := Aside0.mk hmid
      have HF := Aside0.mk hF
      have HP := Aside0.mk hP
      have HTX := Aside0.mk hTx
      have HI2 := Aside0.mk hi
      clear hs1 hRow hT hlen hmid hF hP hTx hi
      go_wp2_with (fail)
      refine (treeAppendImpl.calls k a0 a1 a2 a3 a4 a5 tb w.heap.size g (i : Int) i rfl (by have := HN.out; have := HI2.out; omega) H hs rows val As ns cs _ HTB.out HF.out.size HT.out HLEN.out HMID.out HTX.out (fun q hq => HV.out i q HI2.out hq)).mono ?_
      rintro e w4 ⟨rfl, hG⟩
      have HG4 := Aside0.mk (grew_trans (hG := hG) HF.out HP.out)
      clear hG x1
      dsimp only
      go_wp2
      go_roundg k1
      case measure => omega
      case rel => exact ⟨i + 1, by first | rfl | (congr 1), ⟨by have := HI.out; omega⟩, HG4⟩
def node_ (F : List Int → List Int → Option (List Int)) (L : List (List Int)) : Nat → Nat → Option (List Int)
  | 0, j => L[j]?
  | i + 1, j => (node_ F L i (2 * j)).bind fun x => (node_ F L i (2 * j + 1)).bind fun y => F x y
def allN (F : List Int → List Int → Option (List Int)) (L : List (List Int)) (n : Nat) : Bool := (List.range 64).all fun i => (List.range (n / 2 ^ i)).all fun j => (node_ F L i j).isSome
def nodeV (F : List Int → List Int → Option (List Int)) (L : List (List Int)) (i j : Nat) : List Int := (node_ F L i j).getD []
def idsIn (n : Nat) (ids : List S99) : Bool := ids.all fun id => decide (0 ≤ id.f0) && (decide (0 ≤ id.f1) && decide ((id.f1.toNat + 1) * 2 ^ id.f0.toNat ≤ n))
def impl_TreeRoot.f (k : Nat) (a0 a1 a2 a3 a4 a5 : Int) (l : List (List Int)) (size : Int) : Option (List Int × Bool) :=
  if IntKind.u64.wrap (l.length : Int) < size then some ([], false) else
  if l.length < 1099511627776 then (impl_texts.f k l).bind fun x =>
    if x.length < 1099511627776 ∧ allN (impl_toy_HashChildren.f k a0 a1 a2 a3 a4 a5) x x.length = true then
      (if size = 0 then (impl_toy_EmptyRoot.f k a0 a1 a2 a3 a4 a5).bind fun r => some (r, true)
       else (compact_RangeNodes.f k 0 size []).bind fun ids => if ids.length ≤ 100000 ∧ idsIn x.length ids = true then (foldR_ (impl_toy_HashChildren.f k a0 a1 a2 a3 a4 a5) (ids.map fun id => nodeV (impl_toy_HashChildren.f k a0 a1 a2 a3 a4 a5) x id.f0.toNat id.f1.toNat)).bind fun r => some (r, true) else none)
    else none
  else none
theorem node_mono {F F' : List Int → List Int → Option (List Int)} (h : ∀ a b, LeO (F a b) (F' a b)) (L : List (List Int)) : ∀ i j, LeO (node_ F L i j) (node_ F' L i j)
  | 0, _ => LeO.refl _
  | i + 1, j => by
    unfold node_
    exact LeO.bind (node_mono h L i _) (fun x => LeO.bind (node_mono h L i _) (fun y => h x y))
theorem foldR_mono {F F' : List Int → List Int → Option (List Int)} (h : ∀ a b, LeO (F a b) (F' a b)) : ∀ l, LeO (foldR_ F l) (foldR_ F' l)
  | [] => LeO.refl _
  | [x] => LeO.refl _
  | x :: y :: l => by
    unfold foldR_
    exact LeO.bind (foldR_mono h (y :: l)) (fun t => h x t)
theorem allN_some {F : List Int → List Int → Option (List Int)} {L : List (List Int)} {n i j : Nat} (h : allN F L n = true) (hn : n < 1099511627776) (hj : (j + 1) * 2 ^ i ≤ n) : node_ F L i j = some (nodeV F L i j) := by
  have hi : i < 64 := by
    apply Nat.lt_of_not_le
    intro h2
    have h3 := Nat.pow_le_pow_right (n := 2) (by decide) h2
    have h4 : 2 ^ i ≤ (j + 1) * 2 ^ i := Nat.le_mul_of_pos_left _ (by omega)
    have h5 : (2 : Nat) ^ 64 = 18446744073709551616 := rfl
    omega
  have h1 := List.all_eq_true.mp h i (List.mem_range.mpr hi)
  have h2 := List.all_eq_true.mp h1 j (List.mem_range.mpr (by
    have hp := Nat.two_pow_pos i
    have : j + 1 ≤ n / 2 ^ i := (Nat.le_div_iff_mul_le hp).mpr hj
    omega))
  unfold nodeV
  obtain ⟨v, hv⟩ := Option.isSome_iff_exists.mp h2
  rw [hv]; rfl
theorem node_step {F : List Int → List Int → Option (List Int)} {L : List (List Int)} {n m i : Nat} (h : allN F L n = true) (hn : n < 1099511627776) (hm : m < n) (hb : ∀ j, j ≤ i → m / 2 ^ j % 2 = 1) : F (nodeV F L i (m / 2 ^ i - 1)) (nodeV F L i (m / 2 ^ i)) = some (nodeV F L (i + 1) (m / 2 ^ (i + 1))) := by
  have h0 := hb i (Nat.le_refl _)
  have hc := carry (n := m) (ℓ := i + 1) (fun j hj => hb j (by omega))
  have hle : (m / 2 ^ (i + 1) + 1) * 2 ^ (i + 1) ≤ n := by
    have := Nat.div_mul_le_self (m + 1) (2 ^ (i + 1))
    rw [hc] at this; omega
  have h1 := allN_some h hn hle
  have e : m / 2 ^ (i + 1) = m / 2 ^ i / 2 := by rw [Nat.pow_succ, ← Nat.div_div_eq_div_mul]
  have hpow : 2 ^ (i + 1) = 2 * 2 ^ i := by rw [Nat.pow_succ]; omega
  have h2 := allN_some (i := i) (j := 2 * (m / 2 ^ (i + 1))) h hn (by
    have h4 : (2 * (m / 2 ^ (i + 1)) + 1) * 2 ^ i ≤ (m / 2 ^ (i + 1) + 1) * 2 ^ (i + 1) := by
      rw [hpow, ← Nat.mul_assoc]; exact Nat.mul_le_mul_right _ (by omega)
    omega)
  have h3 := allN_some (i := i) (j := 2 * (m / 2 ^ (i + 1)) + 1) h hn (by
    have h4 : (2 * (m / 2 ^ (i + 1)) + 1 + 1) * 2 ^ i ≤ (m / 2 ^ (i + 1) + 1) * 2 ^ (i + 1) := by
      rw [hpow, ← Nat.mul_assoc]; exact Nat.mul_le_mul_right _ (by omega)
    omega)
  rw [node_, h2, Option.bind_some, h3, Option.bind_some] at h1
  have e1 : 2 * (m / 2 ^ (i + 1)) = m / 2 ^ i - 1 := by omega
  have e2 : 2 * (m / 2 ^ (i + 1)) + 1 = m / 2 ^ i := by omega
  rw [e2, e1] at h1
  exact h1
theorem idsIn_at {n : Nat} {ids : List S99} {i : Nat} {id : S99} (h : idsIn n ids = true) (hi : ids[i]? = some id) : id = ⟨((id.f0.toNat : Nat) : Int), ((id.f1.toNat : Nat) : Int)⟩ ∧ (id.f1.toNat + 1) * 2 ^ id.f0.toNat ≤ n := by
  have h1 := List.all_eq_true.mp h id (List.mem_of_getElem? hi)
  simp only [Bool.and_eq_true, decide_eq_true_eq] at h1
  obtain ⟨h2, h3, h4⟩ := h1
  obtain ⟨f0, f1⟩ := id
  refine ⟨?_, h4⟩
  show (⟨f0, f1⟩ : S99) = ⟨((f0.toNat : Nat) : Int), ((f1.toNat : Nat) : Int)⟩
  rw [Int.toNat_of_nonneg h2, Int.toNat_of_nonneg h3]
theorem impl_TreeRoot.mono : ∀ a0 a1 a2 a3 a4 a5 l size k, LeO (impl_TreeRoot.f k a0 a1 a2 a3 a4 a5 l size) (impl_TreeRoot.f (k + 1) a0 a1 a2 a3 a4 a5 l size) := by
  intro a0 a1 a2 a3 a4 a5 l size k
  have hF : ∀ a b, LeO (impl_toy_HashChildren.f k a0 a1 a2 a3 a4 a5 a b) (impl_toy_HashChildren.f (k + 1) a0 a1 a2 a3 a4 a5 a b) := fun a b => impl_toy_HashChildren.mono _ _ _ _ _ _ _ _ _
  unfold impl_TreeRoot.f
  refine LeO.ite (LeO.refl _) (LeO.ite (LeO.bind (impl_texts.mono _ _) (fun x => ?_)) (LeO.refl _))
  by_cases h : x.length < 1099511627776 ∧ allN (impl_toy_HashChildren.f k a0 a1 a2 a3 a4 a5) x x.length = true
  case neg => rw [if_neg h]; exact LeO.none _
  have hV : ∀ i j, (j + 1) * 2 ^ i ≤ x.length → node_ (impl_toy_HashChildren.f (k + 1) a0 a1 a2 a3 a4 a5) x i j = some (nodeV (impl_toy_HashChildren.f k a0 a1 a2 a3 a4 a5) x i j) := fun i j hj => node_mono hF x i j _ (allN_some h.2 h.1 hj)
  have h' : x.length < 1099511627776 ∧ allN (impl_toy_HashChildren.f (k + 1) a0 a1 a2 a3 a4 a5) x x.length = true := ⟨h.1, List.all_eq_true.mpr (fun i _ => List.all_eq_true.mpr (fun j hj => by
    rw [hV i j (by
      have := List.mem_range.mp hj
      exact (Nat.le_div_iff_mul_le (Nat.two_pow_pos i)).mp (by omega))]; rfl))⟩
  rw [if_pos h, if_pos h']
  refine LeO.ite (LeO.bind (impl_toy_EmptyRoot.mono _ _ _ _ _ _ _) (fun _ => LeO.refl _)) (LeO.bind (compact_RangeNodes.mono _ _ _ _) (fun ids => ?_))
  by_cases h2 : ids.length ≤ 100000 ∧ idsIn x.length ids = true
  case neg => rw [if_neg h2]; exact LeO.none _
  rw [if_pos h2, if_pos h2]
  have e : (ids.map fun id => nodeV (impl_toy_HashChildren.f (k + 1) a0 a1 a2 a3 a4 a5) x id.f0.toNat id.f1.toNat) = ids.map fun id => nodeV (impl_toy_HashChildren.f k a0 a1 a2 a3 a4 a5) x id.f0.toNat id.f1.toNat := by
    refine List.map_congr_left (fun id hid => ?_)
    obtain ⟨i, hi⟩ := List.getElem?_of_mem hid
    have := hV _ _ (idsIn_at h2.2 hi).2
    unfold nodeV at this ⊢
    rw [this]; rfl
  rw [e]
  exact LeO.bind (foldR_mono hF _) (fun _ => LeO.refl _)
theorem looks_of {n : Nat} {ids : List S99} {hs : List SH} {rows : List (List SH)} (hl : rows.length = hs.length) (hlen : hs.length = blen n) (hmid : Mid n 0 rows) (hid : idsIn n ids = true) :
    Looks ids rows (ids.map fun id => ((rows.getD id.f0.toNat []).getD id.f1.toNat ((none, 0, 0) : SH))) := by
  refine ⟨by rw [List.length_map], fun i id hi => ?_⟩
  obtain ⟨h1, h2⟩ := idsIn_at hid hi
  have hp := Nat.two_pow_pos id.f0.toNat
  have hle : id.f1.toNat + 1 ≤ n / 2 ^ id.f0.toNat := (Nat.le_div_iff_mul_le hp).mpr h2
  have ha : id.f0.toNat < rows.length := by
    rw [hl, hlen]
    apply Nat.lt_of_not_le
    intro h3
    rw [Nat.div_eq_of_lt (blen_le.1 h3)] at hle
    omega
  have hr := hmid id.f0.toNat _ (List.getElem?_eq_getElem ha)
  rw [if_neg (show ¬ id.f0.toNat < 0 by omega), Nat.add_zero] at hr
  refine ⟨id.f0.toNat, id.f1.toNat, rows[id.f0.toNat], (rows[id.f0.toNat])[id.f1.toNat]'(by omega), h1, List.getElem?_eq_getElem ha, List.getElem?_eq_getElem (by omega), ?_⟩
  rw [List.getElem?_map, hi]
  simp only [Option.map_some, List.getD_eq_getElem?_getD, List.getElem?_eq_getElem ha, Option.getD_some]
  rw [List.getElem?_eq_getElem (show id.f1.toNat < (rows[id.f0.toNat]).length by omega)]
  rfl
theorem looks_txt {w : World} {tb base g : Nat} {hv : Value} {n : Int} {H : SH} {hs : List SH} {rows : List (List SH)} {val : Nat → Nat → List Int} {ids : List S99} {ss : List SH} (T : TreeAt w tb base g hv n H hs rows val) (lk : Looks ids rows ss) :
    ∀ (i : Nat) (s : SH) (b : List Int), ss[i]? = some s → (ids.map fun id => val id.f0.toNat id.f1.toNat)[i]? = some b → Txt tb w s b := by
  intro i s b hs hb
  rw [List.getElem?_map] at hb
  obtain ⟨id, hid, rfl⟩ := Option.map_eq_some_iff.mp hb
  obtain ⟨a, c, rs, s', rfl, h1, h2, h3⟩ := lk.2 i id hid
  obtain rfl := Option.some.inj (hs.symm.trans h3)
  exact T.txt a c rs s h1 h2
set_option maxHeartbeats 16000000 in
set_option maxRecDepth 100000 in
theorem impl_TreeRoot.calls (k : Nat) (a0 a1 a2 a3 a4 a5 : Int) (A1 : Option Addr) (c1 : Nat) (l1 : List (List Int)) (size : Int) (r0 : List Int) (r1 : Bool) (w : World) (hG : Glob w) (hr1 : Kd.C (Kd.slice 5 (Kd.int .u8)) w A1 l1.length l1) (hc1 : l1.length ≤ c1) (h : impl_TreeRoot.f k a0 a1 a2 a3 a4 a5 l1 size = some (r0, r1)) :
    Calls Tryd.prog 14 #[.agg #[.int .i64 a0, .int .i64 a1, .int .i64 a2, .int .u64 a3, .int .u64 a4, .int .u64 a5], .slice A1 l1.length c1, .int .u64 size] w fun e w' => ∃ v0_, e = .returned (.tuple #[v0_, .bool r1]) ∧ Kd.R (Kd.int .u8) 5 w' w.heap.size (fun _ => True) v0_ r0 ∧ Below w.heap.size w w' := by
  unfold impl_TreeRoot.f at h
  by_cases hs : IntKind.u64.wrap (l1.length : Int) < size
  · rw [if_pos hs] at h
    have h := Option.some.inj h
    simp only [Prod.mk.injEq] at h
    obtain ⟨rfl, rfl⟩ := h
    have b0 : decide (IntKind.u64.wrap (l1.length : Int) < size) = true := decide_eq_true hs
    clear hs hr1 hc1 hG
    go_enter Tryd.func14, Tryd.ntmps14
    go_wp2
    go_ret2
    exact ⟨_, rfl, Kd.R_nil _ _ _ _ _, by repeat (first | exact Below.refl _ _ | apply below_alloc | apply pw_below_drewN | apply below_drew1)⟩
  rw [if_neg hs] at h
  by_cases hl : l1.length < 1099511627776
  case neg => rw [if_neg hl] at h; cases h
  rw [if_pos hl] at h
  obtain ⟨x, hx, h⟩ := Option.bind_eq_some_iff.mp h
  by_cases hal : x.length < 1099511627776 ∧ allN (impl_toy_HashChildren.f k a0 a1 a2 a3 a4 a5) x x.length = true
  case neg => rw [if_neg hal] at h; cases h
  rw [if_pos hal] at h
  have b0 : decide (IntKind.u64.wrap (l1.length : Int) < size) = false := decide_eq_false hs
  have HX := Aside0.mk hx
  have HAL := Aside0.mk hal
  have HR1 := Aside0.mk hr1
  have HC1 := Aside0.mk hc1
  have H := Aside0.mk h
  have HG := Aside0.mk hG
  clear hs hl hx hal h hr1 hc1 hG
  go_enter Tryd.func14, Tryd.ntmps14
  go_wp2_with (fail)
  refine (treeNew.calls _ _).mono ?_
  rintro e w1 ⟨rfl, rfl⟩
  dsimp only
  obtain ⟨W0, hW0⟩ : ∃ W0, w.alloc (Obj.cells #[.int .i64 a0, .int .i64 a1, .int .i64 a2, .int .u64 a3, .int .u64 a4, .int .u64 a5] 24) = W0 := ⟨_, rfl⟩
  rw [hW0]
  have HB0 := Aside0.mk (show Below w.heap.size w W0 by rw [← hW0]; exact below_alloc (Below.refl _ _) _)
  clear hW0
  obtain ⟨W1, hW1⟩ : ∃ W1, W0.alloc (Obj.cells #[.iface 82 (toyV a0 a1 a2 a3 a4 a5), .int .u64 0, .slice none 0 0] 137) = W1 := ⟨_, rfl⟩
  have hW1' : W0.alloc (Obj.cells #[.iface 82 (.agg #[.int .i64 a0, .int .i64 a1, .int .i64 a2, .int .u64 a3, .int .u64 a4, .int .u64 a5]), .int .u64 0, .slice none 0 0] 137) = W1 := hW1
  rw [hW1']
  have bk := Aside0.mk (show W1.heap[W0.heap.size]? = some (.cells #[.iface 82 (toyV a0 a1 a2 a3 a4 a5), .int .u64 0, .slice none 0 0] 137 (0, 0)) by rw [← hW1]; exact blk_new W0 _)
  have HB1 := Aside0.mk (show Below w.heap.size w W1 by rw [← hW1]; exact below_alloc HB0.out _)
  have HGE := Aside0.mk (show w.heap.size ≤ W0.heap.size from HB0.out.size)
  have HGL := Aside0.mk (show W0.heap.size < W1.heap.size from (Array.getElem?_eq_some_iff.1 bk.out).1)
  clear hW1 hW1'
  generalize W0.heap.size = g at bk HGE HGL ⊢
  go_wp2_with (fail)
  refine (impl_texts.calls k A1 c1 l1 x W1 (Kd.C_below HR1.out HB1.out) HC1.out HX.out).mono ?_
  rintro e w2 ⟨v2, rfl, hS, hb⟩
  obtain ⟨A2, c2, e2⟩ := Kd.S_slice hS
  subst e2
  have HB2 := Aside0.mk (HB1.out.trans (hb.mono HB1.out.size))
  have bk2 := Aside0.mk ((hb.block g HGL.out).trans bk.out)
  obtain ⟨ss, hsl, hRw, hTx⟩ := rows_SH (Kd.S_R hS)
  have HSL := Aside0.mk hsl
  have HRw := Aside0.mk (show Rw w2 w.heap.size (.slice A2 x.length c2) ss from Kd.R_lower hRw HB1.out.size)
  have HTx := Aside0.mk (show ∀ (j : Nat) (s : SH), ss[j]? = some s → Txt w.heap.size w2 s (nodeV (impl_toy_HashChildren.f k a0 a1 a2 a3 a4 a5) x 0 j) from fun j s hj => by
    have hjl : j < x.length := by have := (List.getElem?_eq_some_iff.1 hj).1; omega
    have h1 := hTx j s _ hj (List.getElem?_eq_getElem hjl)
    have e : nodeV (impl_toy_HashChildren.f k a0 a1 a2 a3 a4 a5) x 0 j = x[j] := by
      unfold nodeV node_
      rw [List.getElem?_eq_getElem hjl]; rfl
    rw [e]
    exact Txt.of_R h1 HB1.out.size)
  clear hS hb hsl hRw hTx bk HB1
  dsimp only
  have HV := Aside0.mk (show ∀ m i, m < x.length → (∀ j, j ≤ i → m / 2 ^ j % 2 = 1) → impl_toy_HashChildren.f k a0 a1 a2 a3 a4 a5 (nodeV (impl_toy_HashChildren.f k a0 a1 a2 a3 a4 a5) x i (m / 2 ^ i - 1)) (nodeV (impl_toy_HashChildren.f k a0 a1 a2 a3 a4 a5) x i (m / 2 ^ i)) = some (nodeV (impl_toy_HashChildren.f k a0 a1 a2 a3 a4 a5) x (i + 1) (m / 2 ^ (i + 1))) from fun m i hm hb => node_step HAL.out.2 HAL.out.1 hm hb)
  go_wp2_with (fail)
  refine (treeAppend.calls k a0 a1 a2 a3 a4 a5 w.heap.size g (nodeV (impl_toy_HashChildren.f k a0 a1 a2 a3 a4 a5) x) A2 c2 ss x.length w2 HB2.out.size (Array.getElem?_eq_some_iff.1 bk2.out).1 HAL.out.1 HSL.out ⟨bk2.out, Kd.R_nil _ _ _ _ _, rfl, fun i h hi => by simp at hi, fun i j h h' b hi => by simp at hi, fun i j rs s hi => by simp at hi⟩ HRw.out HTx.out HV.out).mono ?_
  rintro e w3 ⟨rfl, hGr⟩
  obtain ⟨H3, hs3, rows3, hT3, hlen3, hmid3, hF3, hP3⟩ := hGr
  have HT3 := Aside0.mk hT3
  have HLEN3 := Aside0.mk hlen3
  have HMID3 := Aside0.mk hmid3
  have HB3 := Aside0.mk (show Below w.heap.size w w3 from HB2.out.trans (hF3.below HB2.out.size HGE.out))
  clear hT3 hlen3 hmid3 hF3 hP3
  dsimp only
  have h := H.out
  by_cases h0 : size = 0
  · subst h0
    rw [if_pos rfl] at h
    obtain ⟨r, hr, h⟩ := Option.bind_eq_some_iff.mp h
    have h := Option.some.inj h
    simp only [Prod.mk.injEq] at h
    obtain ⟨rfl, rfl⟩ := h
    have HR := Aside0.mk hr
    clear hr H h
    go_wp2_with (fail)
    refine (treeHashAt0.calls k a0 a1 a2 a3 a4 a5 w.heap.size w2.heap.size g _ H3 hs3 rows3 _ r w3 HT3.out HR.out).mono ?_
    rintro e w4 ⟨v4, rfl, h1, h2⟩
    have H1 := Aside0.mk h1
    have H2 := Aside0.mk h2
    clear h1 h2
    dsimp only
    go_wp2
    go_ret2
    exact ⟨_, rfl, Kd.R_lower H1.out HB3.out.size, HB3.out.trans (H2.out.mono HB3.out.size)⟩
  · rw [if_neg h0] at h
    obtain ⟨ids, hids, h⟩ := Option.bind_eq_some_iff.mp h
    by_cases hid : ids.length ≤ 100000 ∧ idsIn x.length ids = true
    case neg => rw [if_neg hid] at h; cases h
    rw [if_pos hid] at h
    obtain ⟨r, hr, h⟩ := Option.bind_eq_some_iff.mp h
    have h := Option.some.inj h
    simp only [Prod.mk.injEq] at h
    obtain ⟨rfl, rfl⟩ := h
    have HR := Aside0.mk hr
    have HIDS := Aside0.mk hids
    have HID := Aside0.mk hid
    have H0 := Aside0.mk h0
    clear hr H h hids hid h0
    have HLK := Aside0.mk (looks_of HT3.out.len HLEN3.out HMID3.out HID.out.2)
    go_wp2_with (fail)
    refine (treeHashAt.calls k a0 a1 a2 a3 a4 a5 w.heap.size w2.heap.size g _ H3 hs3 rows3 _ size ids _ _ r w3 (HG.out.below HB3.out) HB3.out.size HT3.out H0.out HIDS.out HID.out.1 HLK.out (by rw [List.length_map, List.length_map]) (looks_txt HT3.out HLK.out) HR.out).mono ?_
    rintro e w4 ⟨v4, rfl, h1, h2⟩
    have H1 := Aside0.mk h1
    have H2 := Aside0.mk h2
    clear h1 h2
    dsimp only
    go_wp2
    go_ret2
    exact ⟨_, rfl, H1.out, HB3.out.trans (H2.out.mono HB3.out.size)⟩
end Go.Proofs.YtielnphmcaecdaaDoor.PAll
namespace Go.Proofs.YtielnphmcaecdaaDoor.PAll
open Go.IntWalk Go.RowKit Go.Proofs.YtielnphmcaecdaaDoorW.PrintWords Go.Proofs.YtielnphmcaecdaaDoorW.PrintLast Go.Proofs.YtielnphmcaecdaaDoorW.PrintMore
set_option linter.unusedVariables false
def upB_ (H : List Int → List Int → Option (List Int)) : List (List Int) → List Int → Option (List Int)
  | [], s => some s
  | x :: xs, s => (H x s).bind fun t => upB_ H xs t
def rehL (b e : Nat) (xs : List (List Int)) (f : List Int) : List (List Int) := if b < e then xs.take b ++ f :: xs.drop e else xs
end Go.Proofs.YtielnphmcaecdaaDoor.PAll
namespace Go.Proofs.YtielnphmcaecdaaDoor.PAll
open Go.RowKit Go.Proofs.YtielnphmcaecdaaDoorW.PrintWords Go.Proofs.YtielnphmcaecdaaDoorW.PrintLast Go.Proofs.YtielnphmcaecdaaDoorW.PrintMore
set_option linter.unusedVariables false
def TxC (w : World) (v : Value) (s : List Int) : Prop := ∃ A c, v = .slice A s.length c ∧ s.length ≤ c ∧ Kd.C (Kd.int .u8) w A s.length s
theorem TxC.of_R {w : World} {B : Nat} {ok : Nat → Prop} {v : Value} {s : List Int} (h : Kd.R (Kd.int .u8) 5 w B ok v s) : TxC w v s := by
  obtain ⟨A, c, rfl⟩ := Kd.R_slice h
  obtain ⟨_, hc, hC⟩ := Kd.R_reads' h
  exact ⟨A, c, rfl, hc, hC⟩
theorem TxC.below {w w' : World} {v : Value} {s : List Int} (h : TxC w v s) (hb : Below w.heap.size w w') : TxC w' v s := by
  obtain ⟨A, c, rfl, hc, hC⟩ := h
  exact ⟨A, c, rfl, hc, Kd.C_below hC hb⟩
def up_ (H : List Int → List Int → Option (List Int)) (idx : Int) : List (List Int) → Nat → List Int → Option (List Int)
  | [], _, s => some s
  | x :: xs, i, s => (if Go.bits .and .u64 (shr .u64 idx (i : Int)) 1 = 0 then H s x else H x s).bind fun t => up_ H idx xs (i + 1) t
theorem vdrop_rd {l : List (List Int)} {i : Nat} (h : i < l.length) : l.drop i = rd_L1 l (i : Int) :: l.drop (i + 1) := by
  rw [List.drop_eq_getElem_cons h]
  congr 1
  show _ = l.getD i []
  rw [List.getD_eq_getElem?_getD, List.getElem?_eq_getElem h]; rfl
theorem vnxt {i : Nat} (h : i < 9223372036854775807) : wrap64 ((i : Int) + 1) = ((i + 1 : Nat) : Int) := by unfold wrap64; omega
def upR_ (H : List Int → List Int → Option (List Int)) (idx : Int) : List (List Int) → Nat → List Int → Option (List Int)
  | [], _, s => some s
  | x :: xs, i, s => (if Go.bits .and .u64 (shr .u64 idx (i : Int)) 1 = 1 then H x s else some s).bind fun t => upR_ H idx xs (i + 1) t
set_option maxHeartbeats 8000000 in
set_option maxRecDepth 100000 in
theorem chainInner.calls (k : Nat) (a0 a1 a2 a3 a4 a5 : Int) (v : Value) (s : List Int) (A : Option Addr) (c : Nat) (l : List (List Int)) (idx : Int) (r : List Int) (w : World) (hs : TxC w v s) (hr : Kd.C (Kd.slice 5 (Kd.int .u8)) w A l.length l) (hc : l.length ≤ c)
    (h : up_ (impl_toy_HashChildren.f k a0 a1 a2 a3 a4 a5) idx l 0 s = some r) :
    Calls Tryd.prog 106 #[.iface 82 (.agg #[.int .i64 a0, .int .i64 a1, .int .i64 a2, .int .u64 a3, .int .u64 a4, .int .u64 a5]), v, .slice A l.length c, .int .u64 idx] w fun e w' => ∃ v0_, e = .returned v0_ ∧ TxC w' v0_ r ∧ Below w.heap.size w w' := by
  have HL := Aside0.mk hr.2.1
  have HR := Aside0.mk hr
  have HC := Aside0.mk hc
  have HS := Aside0.mk hs
  have H := Aside0.mk h
  clear hr hc hs h
  have hm := methHC a0 a1 a2 a3 a4 a5
  go_enter Tryd.func106, Tryd.ntmps106
  go_wp2
  try simp only [Act.put, List.setIfInBounds_toArray, List.set_cons_zero, List.set_cons_succ]
  go_loopg [1, 13] l.length (fun kq v1 v13 w' => ∃ (i : Nat) (s1 : List Int), v13 = .int .i64 (i : Int) ∧ Aside0 (i + kq = l.length) ∧ Aside0 (TxC w' v1 s1) ∧ Aside0 (up_ (impl_toy_HashChildren.f k a0 a1 a2 a3 a4 a5) idx (l.drop i) i s1 = some r) ∧ Aside0 (Below w.heap.size w w'))
  case atStart => exact ⟨0, s, rfl, ⟨by omega⟩, HS, H, ⟨Below.refl _ _⟩⟩
  case round =>
    clear HS H
    obtain ⟨i, s1, rfl, HI, HS, H, HB⟩ := hrel
    cases gk with
    | zero =>
      have ei : i = l.length := by have := HI.out; omega
      subst ei
      have hr := H.out
      rw [List.drop_of_length_le (Nat.le_refl _)] at hr
      obtain rfl := Option.some.inj hr
      go_wp2
      go_ret
      exact ⟨_, rfl, HS.out, HB.out⟩
    | succ k1 =>
      have hi : i < l.length := by have := HI.out; omega
      have hd := H.out
      rw [vdrop_rd hi] at hd
      have c1 : decide (i < l.length) = true := decide_eq_true hi
      have c2 : decide ((i : Int) < (l.length : Int)) = true := decide_eq_true (by omega)
      obtain ⟨ad, A1, d1, e1, hx1, hl1, hi1⟩ := at_L1 HR.out (i : Int) (by omega) (by omega)
      cases e1
      have hx1' : w.cell? (ad.add i) = some (.slice A1 (rd_L1 l (i : Int)).length d1) := hx1
      have hx2 := (HB.out.cell (World.block_lt_of_cell? w _ hx1')).trans hx1'
      have hi64 : i < 9223372036854775807 := by have := HL.out; omega
      obtain ⟨As, cs, rfl, hcs, hCs⟩ := HS.out
      have HCS := Aside0.mk hcs
      have HCR := Aside0.mk hCs
      have HX := Aside0.mk (Kd.C_below hi1 HB.out)
      have HXL := Aside0.mk hl1
      clear hcs hCs hi1 hl1
      rw [up_] at hd
      obtain ⟨t, ht, hd⟩ := Option.bind_eq_some_iff.mp hd
      have HD := Aside0.mk hd
      by_cases c9 : Go.bits .and .u64 (shr .u64 idx (i : Int)) 1 = 0
      · rw [if_pos c9] at ht
        have b9 : (Go.bits .and .u64 (idx / 2 ^ min i 64) 1 == 0) = true := beq_iff_eq.mpr c9
        have HT := Aside0.mk ht
        clear ht hd c9
        go_wp2_with (fail)
        refine (impl_toy_HashChildren.calls k a0 a1 a2 a3 a4 a5 As cs s1 A1 d1 (rd_L1 l (i : Int)) t _ HCR.out HCS.out HX.out HXL.out HT.out).mono ?_
        rintro e w4 ⟨v4, rfl, hR4, hb⟩
        have HR4 := Aside0.mk (TxC.of_R hR4)
        have HB4 := Aside0.mk (HB.out.trans (hb.mono HB.out.size))
        clear hR4 hb
        dsimp only
        go_wp2
        go_roundg k1
        case measure => omega
        case rel => exact ⟨i + 1, t, by first | rfl | (rw [vnxt hi64]) | (congr 1), ⟨by have := HI.out; omega⟩, HR4, HD, HB4⟩
      · rw [if_neg c9] at ht
        have b9 : (Go.bits .and .u64 (idx / 2 ^ min i 64) 1 == 0) = false := beq_eq_false_iff_ne.mpr c9
        have HT := Aside0.mk ht
        clear ht hd c9
        go_wp2_with (fail)
        refine (impl_toy_HashChildren.calls k a0 a1 a2 a3 a4 a5 A1 d1 (rd_L1 l (i : Int)) As cs s1 t _ HX.out HXL.out HCR.out HCS.out HT.out).mono ?_
        rintro e w4 ⟨v4, rfl, hR4, hb⟩
        have HR4 := Aside0.mk (TxC.of_R hR4)
        have HB4 := Aside0.mk (HB.out.trans (hb.mono HB.out.size))
        clear hR4 hb
        dsimp only
        go_wp2
        go_roundg k1
        case measure => omega
        case rel => exact ⟨i + 1, t, by first | rfl | (rw [vnxt hi64]) | (congr 1), ⟨by have := HI.out; omega⟩, HR4, HD, HB4⟩
set_option maxHeartbeats 8000000 in
set_option maxRecDepth 100000 in
theorem chainInnerRight.calls (k : Nat) (a0 a1 a2 a3 a4 a5 : Int) (v : Value) (s : List Int) (A : Option Addr) (c : Nat) (l : List (List Int)) (idx : Int) (r : List Int) (w : World) (hs : TxC w v s) (hr : Kd.C (Kd.slice 5 (Kd.int .u8)) w A l.length l) (hc : l.length ≤ c)
    (h : upR_ (impl_toy_HashChildren.f k a0 a1 a2 a3 a4 a5) idx l 0 s = some r) :
    Calls Tryd.prog 104 #[.iface 82 (.agg #[.int .i64 a0, .int .i64 a1, .int .i64 a2, .int .u64 a3, .int .u64 a4, .int .u64 a5]), v, .slice A l.length c, .int .u64 idx] w fun e w' => ∃ v0_, e = .returned v0_ ∧ TxC w' v0_ r ∧ Below w.heap.size w w' := by
  have HL := Aside0.mk hr.2.1
  have HR := Aside0.mk hr
  have HC := Aside0.mk hc
  have HS := Aside0.mk hs
  have H := Aside0.mk h
  clear hr hc hs h
  have hm := methHC a0 a1 a2 a3 a4 a5
  go_enter Tryd.func104, Tryd.ntmps104
  go_wp2
  try simp only [Act.put, List.setIfInBounds_toArray, List.set_cons_zero, List.set_cons_succ]
  go_loopg [1, 13] l.length (fun kq v1 v13 w' => ∃ (i : Nat) (s1 : List Int), v13 = .int .i64 (i : Int) ∧ Aside0 (i + kq = l.length) ∧ Aside0 (TxC w' v1 s1) ∧ Aside0 (upR_ (impl_toy_HashChildren.f k a0 a1 a2 a3 a4 a5) idx (l.drop i) i s1 = some r) ∧ Aside0 (Below w.heap.size w w'))
  case atStart => exact ⟨0, s, rfl, ⟨by omega⟩, HS, H, ⟨Below.refl _ _⟩⟩
  case round =>
    clear HS H
    obtain ⟨i, s1, rfl, HI, HS, H, HB⟩ := hrel
    cases gk with
    | zero =>
      have ei : i = l.length := by have := HI.out; omega
      subst ei
      have hr := H.out
      rw [List.drop_of_length_le (Nat.le_refl _)] at hr
      obtain rfl := Option.some.inj hr
      go_wp2
      go_ret
      exact ⟨_, rfl, HS.out, HB.out⟩
    | succ k1 =>
      have hi : i < l.length := by have := HI.out; omega
      have hd := H.out
      rw [vdrop_rd hi] at hd
      have c1 : decide (i < l.length) = true := decide_eq_true hi
      have c2 : decide ((i : Int) < (l.length : Int)) = true := decide_eq_true (by omega)
      obtain ⟨ad, A1, d1, e1, hx1, hl1, hi1⟩ := at_L1 HR.out (i : Int) (by omega) (by omega)
      cases e1
      have hx1' : w.cell? (ad.add i) = some (.slice A1 (rd_L1 l (i : Int)).length d1) := hx1
      have hx2 := (HB.out.cell (World.block_lt_of_cell? w _ hx1')).trans hx1'
      have hi64 : i < 9223372036854775807 := by have := HL.out; omega
      obtain ⟨As, cs, rfl, hcs, hCs⟩ := HS.out
      have HCS := Aside0.mk hcs
      have HCR := Aside0.mk hCs
      have HX := Aside0.mk (Kd.C_below hi1 HB.out)
      have HXL := Aside0.mk hl1
      clear hcs hCs hi1 hl1
      rw [upR_] at hd
      obtain ⟨t, ht, hd⟩ := Option.bind_eq_some_iff.mp hd
      have HD := Aside0.mk hd
      by_cases c9 : Go.bits .and .u64 (shr .u64 idx (i : Int)) 1 = 1
      · rw [if_pos c9] at ht
        have b9 : (Go.bits .and .u64 (idx / 2 ^ min i 64) 1 == 1) = true := beq_iff_eq.mpr c9
        have HT := Aside0.mk ht
        clear ht hd c9
        go_wp2_with (fail)
        refine (impl_toy_HashChildren.calls k a0 a1 a2 a3 a4 a5 A1 d1 (rd_L1 l (i : Int)) As cs s1 t _ HX.out HXL.out HCR.out HCS.out HT.out).mono ?_
        rintro e w4 ⟨v4, rfl, hR4, hb⟩
        have HR4 := Aside0.mk (TxC.of_R hR4)
        have HB4 := Aside0.mk (HB.out.trans (hb.mono HB.out.size))
        clear hR4 hb
        dsimp only
        go_wp2
        go_roundg k1
        case measure => omega
        case rel => exact ⟨i + 1, t, by first | rfl | (rw [vnxt hi64]) | (congr 1), ⟨by have := HI.out; omega⟩, HR4, HD, HB4⟩
      · rw [if_neg c9] at ht
        have b9 : (Go.bits .and .u64 (idx / 2 ^ min i 64) 1 == 1) = false := beq_eq_false_iff_ne.mpr c9
        obtain rfl := Option.some.inj ht
        clear ht hd c9
        go_wp2
        go_roundg k1
        case measure => omega
        case rel => exact ⟨i + 1, s1, by first | rfl | (rw [vnxt hi64]) | (congr 1), ⟨by have := HI.out; omega⟩, HS, HD, HB⟩
set_option maxHeartbeats 8000000 in
set_option maxRecDepth 100000 in
theorem chainBorder.calls (k : Nat) (a0 a1 a2 a3 a4 a5 : Int) (v : Value) (s : List Int) (A : Option Addr) (c : Nat) (l : List (List Int)) (r : List Int) (w : World) (hs : TxC w v s) (hr : Kd.C (Kd.slice 5 (Kd.int .u8)) w A l.length l) (hc : l.length ≤ c)
    (h : upB_ (impl_toy_HashChildren.f k a0 a1 a2 a3 a4 a5) l s = some r) :
    Calls Tryd.prog 105 #[.iface 82 (.agg #[.int .i64 a0, .int .i64 a1, .int .i64 a2, .int .u64 a3, .int .u64 a4, .int .u64 a5]), v, .slice A l.length c] w fun e w' => ∃ v0_, e = .returned v0_ ∧ TxC w' v0_ r ∧ Below w.heap.size w w' := by
  have HL := Aside0.mk hr.2.1
  have HR := Aside0.mk hr
  have HC := Aside0.mk hc
  have HS := Aside0.mk hs
  have H := Aside0.mk h
  clear hr hc hs h
  have hm := methHC a0 a1 a2 a3 a4 a5
  go_enter Tryd.func105, Tryd.ntmps105
  go_wp2
  try simp only [Act.put, List.setIfInBounds_toArray, List.set_cons_zero, List.set_cons_succ]
  go_loopg [1, 11] l.length (fun kq v1 v11 w' => ∃ (i : Nat) (s1 : List Int), v11 = .int .i64 (i : Int) ∧ Aside0 (i + kq = l.length) ∧ Aside0 (TxC w' v1 s1) ∧ Aside0 (upB_ (impl_toy_HashChildren.f k a0 a1 a2 a3 a4 a5) (l.drop i) s1 = some r) ∧ Aside0 (Below w.heap.size w w'))
  case atStart => exact ⟨0, s, rfl, ⟨by omega⟩, HS, H, ⟨Below.refl _ _⟩⟩
  case round =>
    clear HS H
    obtain ⟨i, s1, rfl, HI, HS, H, HB⟩ := hrel
    cases gk with
    | zero =>
      have ei : i = l.length := by have := HI.out; omega
      subst ei
      have hr := H.out
      rw [List.drop_of_length_le (Nat.le_refl _)] at hr
      obtain rfl := Option.some.inj hr
      go_wp2
      go_ret
      exact ⟨_, rfl, HS.out, HB.out⟩
    | succ k1 =>
      have hi : i < l.length := by have := HI.out; omega
      have hd := H.out
      rw [vdrop_rd hi] at hd
      have c1 : decide (i < l.length) = true := decide_eq_true hi
      have c2 : decide ((i : Int) < (l.length : Int)) = true := decide_eq_true (by omega)
      obtain ⟨ad, A1, d1, e1, hx1, hl1, hi1⟩ := at_L1 HR.out (i : Int) (by omega) (by omega)
      cases e1
      have hx1' : w.cell? (ad.add i) = some (.slice A1 (rd_L1 l (i : Int)).length d1) := hx1
      have hx2 := (HB.out.cell (World.block_lt_of_cell? w _ hx1')).trans hx1'
      have hi64 : i < 9223372036854775807 := by have := HL.out; omega
      obtain ⟨As, cs, rfl, hcs, hCs⟩ := HS.out
      have HCS := Aside0.mk hcs
      have HCR := Aside0.mk hCs
      have HX := Aside0.mk (Kd.C_below hi1 HB.out)
      have HXL := Aside0.mk hl1
      clear hcs hCs hi1 hl1
      rw [upB_] at hd
      obtain ⟨t, ht, hd⟩ := Option.bind_eq_some_iff.mp hd
      have HD := Aside0.mk hd
      have HT := Aside0.mk ht
      clear ht hd
      go_wp2_with (fail)
      refine (impl_toy_HashChildren.calls k a0 a1 a2 a3 a4 a5 A1 d1 (rd_L1 l (i : Int)) As cs s1 t _ HX.out HXL.out HCR.out HCS.out HT.out).mono ?_
      rintro e w4 ⟨v4, rfl, hR4, hb⟩
      have HR4 := Aside0.mk (TxC.of_R hR4)
      have HB4 := Aside0.mk (HB.out.trans (hb.mono HB.out.size))
      clear hR4 hb
      dsimp only
      go_wp2
      go_roundg k1
      case measure => omega
      case rel => exact ⟨i + 1, t, by first | rfl | (rw [vnxt hi64]) | (congr 1), ⟨by have := HI.out; omega⟩, HR4, HD, HB4⟩
end Go.Proofs.YtielnphmcaecdaaDoor.PAll
namespace Go.Proofs.YtielnphmcaecdaaDoor.PAll
open Go.RowKit Go.Proofs.YtielnphmcaecdaaDoorW.PrintWords Go.Proofs.YtielnphmcaecdaaDoorW.PrintLast Go.Proofs.YtielnphmcaecdaaDoorW.PrintMore
set_option linter.unusedVariables false
def Rev (xs cur : List S99) (m N t : Nat) : Prop := cur.length = xs.length ∧ (∀ p, p < m → cur[p]? = xs[p]?) ∧ ∀ p, p < N → cur[m + p]? = if p < t ∨ N - t ≤ p then xs[m + (N - 1 - p)]? else xs[m + p]?
theorem Rev.zero (xs : List S99) (m N : Nat) : Rev xs xs m N 0 := ⟨rfl, fun _ _ => rfl, fun p hp => by rw [if_neg (by omega)]⟩
theorem Rev.done {xs cur : List S99} {m N t : Nat} (h : Rev xs cur m N t) (hl : xs.length = m + N) (ht : N ≤ 2 * t + 1) : cur = xs.take m ++ (xs.drop m).reverse := by
  obtain ⟨h1, h2, h3⟩ := h
  apply List.ext_getElem?
  intro p
  by_cases hp : p < m
  · rw [List.getElem?_append_left (by rw [List.length_take]; omega), List.getElem?_take_of_lt hp]
    exact h2 p hp
  · rw [List.getElem?_append_right (by rw [List.length_take]; omega), List.length_take, Nat.min_eq_left (by omega)]
    by_cases hq : p < m + N
    · obtain ⟨q, rfl⟩ : ∃ q, p = m + q := ⟨p - m, by omega⟩
      rw [h3 q (by omega), Nat.add_sub_cancel_left, List.getElem?_reverse (by rw [List.length_drop]; omega), List.getElem?_drop, List.length_drop]
      split
      · congr 1; omega
      · congr 1; omega
    · rw [List.getElem?_eq_none (by omega), List.getElem?_eq_none (by rw [List.length_reverse, List.length_drop]; omega)]
end Go.Proofs.YtielnphmcaecdaaDoor.PAll
namespace Go.Proofs.YtielnphmcaecdaaDoor.PAll
open Go.IntWalk Go.RowKit Go.Proofs.YtielnphmcaecdaaDoorW.PrintWords Go.Proofs.YtielnphmcaecdaaDoorW.PrintLast Go.Proofs.YtielnphmcaecdaaDoorW.PrintMore
set_option linter.unusedVariables false
theorem bel {g : Nat} {w W W2 : World} (hg : w.heap.size = g) (h : Below g w W) (hb : Below W.heap.size W W2) : Below g w W2 := by subst hg; exact below_step h hb
end Go.Proofs.YtielnphmcaecdaaDoor.PAll
namespace Go.Proofs.YtielnphmcaecdaaDoor.Num
open Go.RowKit Go.Proofs.YtielnphmcaecdaaDoorW.PrintWords Go.Proofs.YtielnphmcaecdaaDoorW.PrintLast Go.Proofs.YtielnphmcaecdaaDoorW.PrintMore
theorem wf_u64 {a : Int} (h : (Lit.int .u64 a).wf = true) : ∃ n : Nat, a = n ∧ n < 18446744073709551616 := by
  have h1 : 0 ≤ a ∧ a ≤ 18446744073709551615 := by simpa [Lit.wf, IntKind.min, IntKind.max, IntKind.signed, IntKind.bits] using h
  exact ⟨a.toNat, by omega, by omega⟩
theorem wf_u8 {a : Int} (h : (Lit.int .u8 a).wf = true) : ∃ n : Nat, a = n ∧ n < 256 := by
  have h1 : 0 ≤ a ∧ a ≤ 255 := by simpa [Lit.wf, IntKind.min, IntKind.max, IntKind.signed, IntKind.bits] using h
  exact ⟨a.toNat, by omega, by omega⟩
theorem u64w (x : Int) : IntKind.u64.wrap x = x % 18446744073709551616 := by simp [IntKind.wrap, IntKind.bits, IntKind.signed]
theorem u64n (n : Nat) : IntKind.u64.wrap (n : Int) = ((n % 18446744073709551616 : Nat) : Int) := by rw [u64w]; omega
theorem u64in {n : Nat} (h : n < 18446744073709551616) : IntKind.u64.wrap (n : Int) = (n : Int) := by rw [u64w]; omega
theorem w64 {n : Nat} (h : n < 9223372036854775808) : wrap64 (n : Int) = (n : Int) := by unfold wrap64; omega
theorem and64 (a b : Nat) (ha : a < 18446744073709551616) (hb : b < 18446744073709551616) : Go.bits .and .u64 (a : Int) (b : Int) = ((a &&& b : Nat) : Int) := u64_and_nat a b ha hb
theorem xor64 (a b : Nat) (ha : a < 18446744073709551616) (hb : b < 18446744073709551616) : Go.bits .xor .u64 (a : Int) (b : Int) = ((a ^^^ b : Nat) : Int) := u64_xor_nat a b ha hb
theorem shr64 (a b : Nat) : shr .u64 (a : Int) (b : Int) = ((a / 2 ^ min b 64 : Nat) : Int) := by
  show (a : Int) / 2 ^ min ((b : Int).toNat) 64 = _
  rw [Int.toNat_natCast, Int.natCast_ediv, Int.natCast_pow]
  rfl
theorem shr64' (a b : Nat) (ha : a < 18446744073709551616) : shr .u64 (a : Int) (b : Int) = ((a / 2 ^ b : Nat) : Int) := by
  rw [shr64]
  by_cases h : b ≤ 64
  · rw [Nat.min_eq_left h]
  · rw [Nat.min_eq_right (by omega), Nat.div_eq_of_lt ha, Nat.div_eq_of_lt]
    have : 2 ^ 64 ≤ 2 ^ b := Nat.pow_le_pow_right (by omega) (by omega)
    omega
theorem shl64 (a b : Nat) (hb : b ≤ 64) : shl .u64 (a : Int) (b : Int) = ((a * 2 ^ b % 18446744073709551616 : Nat) : Int) := by
  show IntKind.u64.wrap ((a : Int) * 2 ^ min ((b : Int).toNat) 64) = _
  rw [Int.toNat_natCast, Nat.min_eq_left hb, u64w, Int.natCast_emod, Int.natCast_mul, Int.natCast_pow]
  rfl
theorem u64sub {a b : Nat} (h : b ≤ a) (ha : a < 18446744073709551616) : IntKind.u64.wrap ((a : Int) - (b : Int)) = ((a - b : Nat) : Int) := by
  rw [← Int.natCast_sub h]; exact u64in (by omega)
theorem u64add {a b : Nat} (h : a + b < 18446744073709551616) : IntKind.u64.wrap ((a : Int) + (b : Int)) = ((a + b : Nat) : Int) := by
  rw [← Int.natCast_add]; exact u64in h
theorem u64mul {a b : Nat} (h : a * b < 18446744073709551616) : IntKind.u64.wrap ((a : Int) * (b : Int)) = ((a * b : Nat) : Int) := by
  rw [← Int.natCast_mul]; exact u64in h
theorem pow_lt64 {k : Nat} (hk : k ≤ 63) : 2 ^ k < 18446744073709551616 :=
  Nat.lt_of_le_of_lt (Nat.pow_le_pow_right (by decide) hk) (by decide)
theorem shl_one {k : Nat} (hk : k ≤ 63) : shl .u64 1 (k : Int) = ((2 ^ k : Nat) : Int) := by
  have := shl64 1 k (by omega)
  rw [Nat.one_mul, Nat.mod_eq_of_lt (pow_lt64 hk)] at this
  exact this
end Go.Proofs.YtielnphmcaecdaaDoor.Num
namespace Go.Proofs.YtielnphmcaecdaaDoor.PAll
open Go.RowKit Go.Proofs.YtielnphmcaecdaaDoor.Num Go.Proofs.YtielnphmcaecdaaDoor.Mth Go.Proofs.YtielnphmcaecdaaDoorW.PrintWords Go.Proofs.YtielnphmcaecdaaDoorW.PrintLast
theorem ndiv (n m : Nat) : (n : Int) / (m : Int) = ((n / m : Nat) : Int) := (Int.natCast_ediv n m).symm
theorem and_le2 (a b : Nat) : a &&& b ≤ b := Nat.and_le_right
theorem msk55 : msk 85 8 = 6148914691236517205 := rfl
theorem msk33 : msk 51 8 = 3689348814741910323 := rfl
theorem msk0f : msk 15 8 = 1085102592571150095 := rfl
theorem st1_le (x : Nat) : st1 8 x ≤ 12297829382473034410 := by
  have h1 := and_le2 (x / 2) (msk 85 8); have h2 := and_le2 x (msk 85 8)
  rw [msk55] at h1 h2
  unfold st1; rw [msk55]; omega
theorem st2_le (x : Nat) : st2 8 x ≤ 7378697629483820646 := by
  have h1 := and_le2 (x / 4) (msk 51 8); have h2 := and_le2 x (msk 51 8)
  rw [msk33] at h1 h2
  unfold st2; rw [msk33]; omega
theorem bits_OnesCount64.eq (x : Nat) (hx : x < 18446744073709551616) : bits_OnesCount64.f (x : Int) = some ((ones x : Nat) : Int) := by
  have h1 := st1_le x
  have h2 := st2_le (st1 8 x)
  have hs := swar x hx
  dsimp only at hs
  have h3 : st3 8 (st2 8 (st1 8 x)) = cnt 8 x := st3_all 8 x
  have d2 : (x : Int) / 2 = ((x / 2 : Nat) : Int) := ndiv x 2
  have a1 : Go.bits .and .u64 ((x / 2 : Nat) : Int) 6148914691236517205 = ((x / 2 &&& 6148914691236517205 : Nat) : Int) := and64 (x / 2) 6148914691236517205 (by omega) (by omega)
  have a2 : Go.bits .and .u64 (x : Int) 6148914691236517205 = ((x &&& 6148914691236517205 : Nat) : Int) := and64 x 6148914691236517205 (by omega) (by omega)
  have e1 : IntKind.u64.wrap (Go.bits .and .u64 ((x : Int) / 2) 6148914691236517205 + Go.bits .and .u64 (x : Int) 6148914691236517205) = ((st1 8 x : Nat) : Int) := by
    rw [d2, a1, a2, ← Int.natCast_add, ← msk55]
    exact u64in (n := st1 8 x) (by omega)
  generalize st1 8 x = y at *
  have d3 : (y : Int) / 4 = ((y / 4 : Nat) : Int) := ndiv y 4
  have b1 : Go.bits .and .u64 ((y / 4 : Nat) : Int) 3689348814741910323 = ((y / 4 &&& 3689348814741910323 : Nat) : Int) := and64 (y / 4) 3689348814741910323 (by omega) (by omega)
  have b2 : Go.bits .and .u64 (y : Int) 3689348814741910323 = ((y &&& 3689348814741910323 : Nat) : Int) := and64 y 3689348814741910323 (by omega) (by omega)
  have e2 : IntKind.u64.wrap (Go.bits .and .u64 ((y : Int) / 4) 3689348814741910323 + Go.bits .and .u64 (y : Int) 3689348814741910323) = ((st2 8 y : Nat) : Int) := by
    rw [d3, b1, b2, ← Int.natCast_add, ← msk33]
    exact u64in (n := st2 8 y) (by omega)
  generalize st2 8 y = z at *
  have d4 : (z : Int) / 16 = ((z / 16 : Nat) : Int) := ndiv z 16
  have c0 : IntKind.u64.wrap ((z : Int) / 16 + (z : Int)) = ((z / 16 + z : Nat) : Int) := by
    rw [d4, ← Int.natCast_add]
    exact u64in (by omega)
  have e3 : Go.bits .and .u64 (IntKind.u64.wrap ((z : Int) / 16 + (z : Int))) 1085102592571150095 = ((cnt 8 x : Nat) : Int) := by
    rw [c0, ← h3, st3, msk0f]
    exact and64 (z / 16 + z) 1085102592571150095 (by omega) (by omega)
  generalize cnt 8 x = c at *
  have d5 : (c : Int) / 256 = ((c / 256 : Nat) : Int) := ndiv c 256
  have e4 : IntKind.u64.wrap ((c : Int) + (c : Int) / 256) = ((c + c / 256 : Nat) : Int) := by
    rw [d5, ← Int.natCast_add]
    exact u64in (by omega)
  have hp := hs.2.1
  generalize c + c / 256 = p at *
  have d6 : (p : Int) / 65536 = ((p / 65536 : Nat) : Int) := ndiv p 65536
  have e5 : IntKind.u64.wrap ((p : Int) + (p : Int) / 65536) = ((p + p / 65536 : Nat) : Int) := by
    rw [d6, ← Int.natCast_add]
    exact u64in (by omega)
  generalize p + p / 65536 = q at *
  have d7 : (q : Int) / 4294967296 = ((q / 4294967296 : Nat) : Int) := ndiv q 4294967296
  have e6 : IntKind.u64.wrap ((q : Int) + (q : Int) / 4294967296) = ((q + q / 4294967296 : Nat) : Int) := by
    rw [d7, ← Int.natCast_add]
    exact u64in (by omega)
  generalize q + q / 4294967296 = r at *
  have hr : Go.bits .and .i64 (wrap64 (r : Int)) 127 = ((ones x : Nat) : Int) := by
    rw [i64_and127, w64 hs.2.1, ← hs.1]
    rfl
  unfold bits_OnesCount64.f
  rw [e1, e2, e3, e4, e5, e6, hr]
def lenTab : ByteArray := (⟨#[0, 1, 2, 2, 3, 3, 3, 3, 4, 4, 4, 4, 4, 4, 4, 4, 5, 5, 5, 5, 5, 5, 5, 5, 5, 5, 5, 5, 5, 5, 5, 5, 6, 6, 6, 6, 6, 6, 6, 6, 6, 6, 6, 6, 6, 6, 6, 6, 6, 6, 6, 6, 6, 6, 6, 6, 6, 6, 6, 6, 6, 6, 6, 6, 7, 7, 7, 7, 7, 7, 7, 7, 7, 7, 7, 7, 7, 7, 7, 7, 7, 7, 7, 7, 7, 7, 7, 7, 7, 7, 7, 7, 7, 7, 7, 7, 7, 7, 7, 7, 7, 7, 7, 7, 7, 7, 7, 7, 7, 7, 7, 7, 7, 7, 7, 7, 7, 7, 7, 7, 7, 7, 7, 7, 7, 7, 7, 7, 8, 8, 8, 8, 8, 8, 8, 8, 8, 8, 8, 8, 8, 8, 8, 8, 8, 8, 8, 8, 8, 8, 8, 8, 8, 8, 8, 8, 8, 8, 8, 8, 8, 8, 8, 8, 8, 8, 8, 8, 8, 8, 8, 8, 8, 8, 8, 8, 8, 8, 8, 8, 8, 8, 8, 8, 8, 8, 8, 8, 8, 8, 8, 8, 8, 8, 8, 8, 8, 8, 8, 8, 8, 8, 8, 8, 8, 8, 8, 8, 8, 8, 8, 8, 8, 8, 8, 8, 8, 8, 8, 8, 8, 8, 8, 8, 8, 8, 8, 8, 8, 8, 8, 8, 8, 8, 8, 8, 8, 8, 8, 8, 8, 8, 8, 8, 8, 8, 8, 8, 8, 8, 8, 8, 8, 8, 8, 8]⟩ : ByteArray)
def lenList : List Nat := [0, 1, 2, 2, 3, 3, 3, 3, 4, 4, 4, 4, 4, 4, 4, 4, 5, 5, 5, 5, 5, 5, 5, 5, 5, 5, 5, 5, 5, 5, 5, 5, 6, 6, 6, 6, 6, 6, 6, 6, 6, 6, 6, 6, 6, 6, 6, 6, 6, 6, 6, 6, 6, 6, 6, 6, 6, 6, 6, 6, 6, 6, 6, 6, 7, 7, 7, 7, 7, 7, 7, 7, 7, 7, 7, 7, 7, 7, 7, 7, 7, 7, 7, 7, 7, 7, 7, 7, 7, 7, 7, 7, 7, 7, 7, 7, 7, 7, 7, 7, 7, 7, 7, 7, 7, 7, 7, 7, 7, 7, 7, 7, 7, 7, 7, 7, 7, 7, 7, 7, 7, 7, 7, 7, 7, 7, 7, 7, 8, 8, 8, 8, 8, 8, 8, 8, 8, 8, 8, 8, 8, 8, 8, 8, 8, 8, 8, 8, 8, 8, 8, 8, 8, 8, 8, 8, 8, 8, 8, 8, 8, 8, 8, 8, 8, 8, 8, 8, 8, 8, 8, 8, 8, 8, 8, 8, 8, 8, 8, 8, 8, 8, 8, 8, 8, 8, 8, 8, 8, 8, 8, 8, 8, 8, 8, 8, 8, 8, 8, 8, 8, 8, 8, 8, 8, 8, 8, 8, 8, 8, 8, 8, 8, 8, 8, 8, 8, 8, 8, 8, 8, 8, 8, 8, 8, 8, 8, 8, 8, 8, 8, 8, 8, 8, 8, 8, 8, 8, 8, 8, 8, 8, 8, 8, 8, 8, 8, 8, 8, 8, 8, 8, 8, 8, 8, 8]
theorem lenList_all : lenList = (List.range 256).map blen := by decide +kernel
theorem lenTab_same : lenTab.data.toList.map UInt8.toNat = lenList := by kernel_rfl
theorem lenTab_all : lenTab.data.toList.map UInt8.toNat = (List.range 256).map blen := lenTab_same.trans lenList_all
theorem lenTab_list (i : Nat) (h : i < 256) : (lenTab.data.toList.getD i 0).toNat = blen i := by
  have h1 : (lenTab.data.toList.map UInt8.toNat)[i]? = ((List.range 256).map blen)[i]? := by rw [lenTab_all]
  rw [List.getElem?_map, List.getElem?_map, List.getElem?_range h] at h1
  rw [List.getD_eq_getElem?_getD]
  cases h2 : lenTab.data.toList[i]? with
  | none => rw [h2] at h1; simp at h1
  | some b => rw [h2] at h1; simpa using h1
theorem lenTab_size : lenTab.size = 256 := by kernel_rfl
theorem bt_list (s : ByteArray) (i : Nat) (h : i < s.size) : bt s (i : Int) = ((s.data.toList.getD i 0).toNat : Int) := by
  have h' : i < s.data.size := h
  unfold bt
  rw [dif_pos (by simpa using h)]
  simp only [Int.toNat_natCast]
  rw [List.getD_eq_getElem?_getD, Array.getElem?_toList, Array.getElem?_eq_getElem h']
  rfl
theorem lenTab_at (i : Nat) (h : i < 256) : bt lenTab (i : Int) = ((blen i : Nat) : Int) := by
  rw [bt_list _ _ (by rw [lenTab_size]; exact h), lenTab_list i h]
theorem blen_shift (x s : Nat) (h : 2 ^ s ≤ x) : blen x = blen (x / 2 ^ s) + s := by
  induction s generalizing x with
  | zero => simp
  | succ s ih =>
    have hp := Nat.two_pow_pos s
    rw [Nat.pow_succ] at h
    rw [blen_pos (by omega), ih (x / 2) (by omega), Nat.div_div_eq_div_mul, Nat.pow_succ, Nat.mul_comm 2]; omega
theorem w64_add (a b : Nat) (h : a + b < 9223372036854775808) : wrap64 ((a : Int) + (b : Int)) = ((a + b : Nat) : Int) := by
  rw [← Int.natCast_add]; exact w64 h
theorem byte_in (y : Nat) (h : y < 256) : (y : Int) % 256 = (y : Int) := by omega
theorem blen_byte {y : Nat} (h : y < 256) : blen y ≤ 8 := blen_le.2 h
theorem len_end (b s : Nat) (hb : b ≤ 8) (hs : s ≤ 256) : wrap64 ((s : Int) + wrap64 (b : Int)) = ((b + s : Nat) : Int) := by
  rw [w64 (n := b) (by omega), w64_add s b (by omega), Nat.add_comm]
theorem shift_end (s d : Nat) (hs : s ≤ 256) (hd : d ≤ 256) : wrap64 ((s : Int) + (d : Int)) = ((s + d : Nat) : Int) := w64_add s d (by omega)
theorem bits_Len64.low (k : Nat) (x s : Nat) (hx : x < 4294967296) (hs : s ≤ 64) : bits_Len64.j0 (k + 1) (x : Int) (s : Int) = some ((blen x + s : Nat) : Int) := by
  show (if (x : Int) ≥ 65536 then (if ((x : Int) / 65536) ≥ 256 then (if 0 ≤ ((((x : Int) / 65536) / 256) % 256) then (if ((((x : Int) / 65536) / 256) % 256) < 256 then (some (wrap64 ((wrap64 ((wrap64 ((s : Int) + 16)) + 8)) + (wrap64 (bt lenTab ((((x : Int) / 65536) / 256) % 256)))))) else (none)) else (none)) else (if 0 ≤ (((x : Int) / 65536) % 256) then (if (((x : Int) / 65536) % 256) < 256 then (some (wrap64 ((wrap64 ((s : Int) + 16)) + (wrap64 (bt lenTab (((x : Int) / 65536) % 256)))))) else (none)) else (none))) else (if (x : Int) ≥ 256 then (if 0 ≤ (((x : Int) / 256) % 256) then (if (((x : Int) / 256) % 256) < 256 then (some (wrap64 ((wrap64 ((s : Int) + 8)) + (wrap64 (bt lenTab (((x : Int) / 256) % 256)))))) else (none)) else (none)) else (if 0 ≤ (((x : Int)) % 256) then (if (((x : Int)) % 256) < 256 then (some (wrap64 ((s : Int) + (wrap64 (bt lenTab (((x : Int)) % 256)))))) else (none)) else (none)))) = _
  have d1 : (x : Int) / 65536 = ((x / 65536 : Nat) : Int) := ndiv x 65536
  have d2 : (x : Int) / 256 = ((x / 256 : Nat) : Int) := ndiv x 256
  have d3 : ((x / 65536 : Nat) : Int) / 256 = ((x / 65536 / 256 : Nat) : Int) := ndiv (x / 65536) 256
  have s16 : wrap64 ((s : Int) + 16) = ((s + 16 : Nat) : Int) := shift_end s 16 (by omega) (by omega)
  have s8 : wrap64 ((s : Int) + 8) = ((s + 8 : Nat) : Int) := shift_end s 8 (by omega) (by omega)
  have s24 : wrap64 (((s + 16 : Nat) : Int) + 8) = ((s + 16 + 8 : Nat) : Int) := shift_end (s + 16) 8 (by omega) (by omega)
  rw [d1, d2, d3, s16, s8, s24]
  by_cases h1 : 65536 ≤ x
  · rw [if_pos (by omega)]
    by_cases h2 : 256 ≤ x / 65536
    · have h3 : x / 65536 / 256 < 256 := by omega
      have e := blen_shift x 24 (by omega)
      rw [show x / 2 ^ 24 = x / 65536 / 256 by omega] at e
      rw [if_pos (by omega), byte_in _ h3, lenTab_at _ h3, if_pos (by omega), if_pos (by omega), len_end _ _ (blen_byte h3) (by omega), e]
      congr 2; omega
    · have h3 : x / 65536 < 256 := by omega
      have e := blen_shift x 16 (by omega)
      rw [show x / 2 ^ 16 = x / 65536 by omega] at e
      rw [if_neg (by omega), byte_in _ h3, lenTab_at _ h3, if_pos (by omega), if_pos (by omega), len_end _ _ (blen_byte h3) (by omega), e]
      congr 2; omega
  · rw [if_neg (by omega)]
    by_cases h2 : 256 ≤ x
    · have h3 : x / 256 < 256 := by omega
      have e := blen_shift x 8 (by omega)
      rw [show x / 2 ^ 8 = x / 256 by omega] at e
      rw [if_pos (by omega), byte_in _ h3, lenTab_at _ h3, if_pos (by omega), if_pos (by omega), len_end _ _ (blen_byte h3) (by omega), e]
      congr 2; omega
    · have h3 : x < 256 := by omega
      rw [if_neg (by omega), byte_in _ h3, lenTab_at _ h3, if_pos (by omega), if_pos (by omega), len_end _ _ (blen_byte h3) (by omega)]
theorem bits_Len64.eq (k : Nat) (x : Nat) (hx : x < 18446744073709551616) : bits_Len64.f (k + 1) (x : Int) = some ((blen x : Nat) : Int) := by
  unfold bits_Len64.f
  have d1 : (x : Int) / 4294967296 = ((x / 4294967296 : Nat) : Int) := ndiv x 4294967296
  by_cases h : 4294967296 ≤ x
  · rw [if_pos (by omega), d1]
    have e := blen_shift x 32 (by omega)
    rw [show x / 2 ^ 32 = x / 4294967296 by omega] at e
    rw [e]
    exact bits_Len64.low k (x / 4294967296) 32 (by omega) (by omega)
  · rw [if_neg (by omega)]
    exact bits_Len64.low k x 0 (by omega) (by omega)
end Go.Proofs.YtielnphmcaecdaaDoor.PAll
