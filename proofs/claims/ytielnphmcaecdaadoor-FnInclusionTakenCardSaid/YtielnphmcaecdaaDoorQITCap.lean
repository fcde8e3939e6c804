-- Written by a program of this session (wip/tools)
import Derived.Test.YtielnphmcaecdaaDoorQITExtTreeB
import Derived.Outline
import Derived.Deep.QuietTactic
import Derived.BigQuiet
import Derived.Deep.RegionWith
import Derived.Deep.RegionLaw
import Derived.IntWalk
import Derived.Test.YtielnphmcaecdaaDoorQITPAllx0
import Derived.Test.YtielnphmcaecdaaDoorQITV0
namespace Go.Proofs.YtielnphmcaecdaaDoor.PAll
open Go.RowKit Go.Proofs.YtielnphmcaecdaaDoor.Mth Go.Proofs.YtielnphmcaecdaaDoorW.PrintWords Go.Proofs.YtielnphmcaecdaaDoorW.PrintLast Go.Proofs.YtielnphmcaecdaaDoorW.PrintMore
set_option linter.unusedVariables false
set_option maxHeartbeats 8000000 in
theorem treeNew.calls (u : Value) (w : World) : Calls Tryd.prog 43 #[.iface 82 u] w fun e w' => e = .returned (.pointer (some ⟨w.heap.size, 0, none⟩)) ∧ w' = w.alloc (Obj.cells #[.iface 82 u, .int .u64 0, .slice none 0 0] 137) := by
  go_enter Tryd.func43, Tryd.ntmps43
  go_wp2
  go_ret
  exact ⟨rfl, rfl⟩
theorem Frm.row {base g : Nat} {w w' : World} {tb : Nat} {v : Value} {ss : List SH} (h : Frm base g w w') (hR : Rw w tb v ss) (hb : w.heap.size ≤ base) (hg : v.ownBlock ≠ some g) : Rw w' tb v ss :=
  Kd.R_mono (Kd.R_step (Kd.R_tight rfl hR) (fun k hk hlt => h.block k (by omega) (fun e => hg (by rw [← hk, e])))) (fun _ _ => trivial)
theorem grew_trans {tb base g : Nat} {hv : Value} {i : Nat} {val : Nat → Nat → List Int} {w w1 w2 : World} (hF : Frm base g w w1) (hP : Pres5 w w1) (hG : Grew tb base g hv ((i : Int) + 1) (i + 1) val w1 w2) : Grew tb base g hv ((i + 1 : Nat) : Int) (i + 1) val w w2 := by
  obtain ⟨H, hs, rows, hT, hlen, hmid, hF2, hP2⟩ := hG
  exact ⟨H, hs, rows, hT, hlen, hmid, hF.trans hF2, hP.trans hP2⟩
set_option maxHeartbeats 16000000 in
set_option maxRecDepth 100000 in
theorem treeAppend.calls (k : Nat) (a0 a1 a2 a3 a4 a5 : Int) (tb g : Nat) (val : Nat → Nat → List Int) (A : Option Addr) (c : Nat) (ss : List SH) (n : Nat) (w : World) (htb : tb ≤ w.heap.size) (hg0 : g < w.heap.size) (hn : n < 1099511627776) (hss : ss.length = n)
    (T : TreeAt w tb w.heap.size g (.iface 82 (toyV a0 a1 a2 a3 a4 a5)) 0 (none, 0, 0) [] [] val) (hR : Rw w tb (.slice A n c) ss) (hX : ∀ (j : Nat) (s : SH), ss[j]? = some s → Txt tb w s (val 0 j))
    (hval : ∀ m i, m < n → (∀ j, j ≤ i → m / 2 ^ j % 2 = 1) → impl_toy_HashChildren.f k a0 a1 a2 a3 a4 a5 (val i (m / 2 ^ i - 1)) (val i (m / 2 ^ i)) = some (val (i + 1) (m / 2 ^ (i + 1)))) :
    Calls Tryd.prog 44 #[.pointer (some ⟨g, 0, none⟩), .slice A n c] w fun e w' => e = .returned (.tuple #[]) ∧ Grew tb w.heap.size g (.iface 82 (toyV a0 a1 a2 a3 a4 a5)) (n : Int) n val w w' := by
  have HTB := Aside0.mk htb
  have HG0 := Aside0.mk hg0
  have HN := Aside0.mk hn
  have HSS := Aside0.mk hss
  have HT := Aside0.mk T
  have HR := Aside0.mk hR
  have HX := Aside0.mk hX
  have HV := Aside0.mk hval
  have HGN := Aside0.mk (show (Value.slice A n c).ownBlock ≠ some g from fun e => by
    obtain ⟨cells, hc⟩ := Kd.R_typed hR g e
    exact blk_other T.cell hc (by decide) rfl)
  have hnl : (n : Int) ≤ 1099511627776 := by omega
  clear htb hg0 hn hss T hR hX hval
  go_enter Tryd.func44, Tryd.ntmps44
  go_wp2
  try simp only [Act.put, List.setIfInBounds_toArray, List.set_cons_zero, List.set_cons_succ]
  go_loopg [8] n (fun kq v8 w' => ∃ (i : Nat), v8 = .int .i64 (i : Int) ∧ Aside0 (i + kq = n) ∧ Aside0 (Grew tb w.heap.size g (.iface 82 (toyV a0 a1 a2 a3 a4 a5)) (i : Int) i val w w'))
  case atStart => exact ⟨0, rfl, ⟨by omega⟩, ⟨(none, 0, 0), [], [], HT.out, by rw [blen_zero]; rfl, fun i rs h => by simp at h, Frm.refl _ _ _, Pres5.refl _⟩⟩
  case round =>
    clear HT
    obtain ⟨i, rfl, HI, HGr⟩ := hrel
    obtain ⟨H, hs, rows, hT, hlen, hmid, hF, hP⟩ := HGr.out
    cases gk with
    | zero =>
      have ei : i = n := by have := HI.out; omega
      subst ei
      clear hT hlen hmid hF hP
      go_wp2
      go_end0
      exact ⟨rfl, HGr.out⟩
    | succ k1 =>
      have hi : i < n := by have := HI.out; omega
      obtain ⟨⟨As, ns, cs⟩, hs1⟩ : ∃ s, ss[i]? = some s := ⟨_, List.getElem?_eq_getElem (by have := HSS.out; omega)⟩
      have hRow := hF.row HR.out (Nat.le_refl _) HGN.out
      obtain ⟨gL, cL, eL, _⟩ := kSH_form (s := (A, n, c)) hRow (by have := HSS.out; omega)
      simp only [Prod.mk.injEq] at eL
      obtain ⟨rfl, -, rfl⟩ := eL
      obtain ⟨x1, _⟩ := kSH_cell hRow hs1
      replace x1 : World.cell? _ _ = some (.slice As ns cs) := x1
      have hTx := (HX.out i _ hs1).pres hP
      have d0 : 0 ≤ (i : Int) := by omega
      have d1 : (i : Int) < (n : Int) := by omega
      have d2 : decide ((i : Int) < (n : Int)) = true := decide_eq_true d1
      have d3 : decide (i < n) = true := decide_eq_true hi
      have HT := Aside0.mk hT
      have HLEN := Aside0.mk hlen
      have HMID := Aside0.mk hmid
      have HF := Aside0.mk hF
      have HP := Aside0.mk hP
      have HTX := Aside0.mk hTx
      have HI2 := Aside0.mk hi
      clear hs1 hRow hT hlen hmid hF hP hTx hi
      go_wp2_with (fail)
      refine (treeAppendImpl.calls k a0 a1 a2 a3 a4 a5 tb w.heap.size g (i : Int) i rfl (by have := HN.out; have := HI2.out; omega) H hs rows val As ns cs _ HTB.out HF.out.size HT.out HLEN.out HMID.out HTX.out (fun q hq => HV.out i q HI2.out hq)).mono ?_
      rintro e w4 ⟨rfl, hG⟩
      have HG4 := Aside0.mk (grew_trans (hG := hG) HF.out HP.out)
      clear hG x1
      dsimp only
      go_wp2
      go_roundg k1
      case measure => omega
      case rel => exact ⟨i + 1, by first | rfl | (congr 1), ⟨by have := HI.out; omega⟩, HG4⟩
def node_ (F : List Int → List Int → Option (List Int)) (L : List (List Int)) : Nat → Nat → Option (List Int)
  | 0, j => L[j]?
  | i + 1, j => (node_ F L i (2 * j)).bind fun x => (node_ F L i (2 * j + 1)).bind fun y => F x y
def allN (F : List Int → List Int → Option (List Int)) (L : List (List Int)) (n : Nat) : Bool := (List.range 64).all fun i => (List.range (n / 2 ^ i)).all fun j => (node_ F L i j).isSome
def nodeV (F : List Int → List Int → Option (List Int)) (L : List (List Int)) (i j : Nat) : List Int := (node_ F L i j).getD []
def idsIn (n : Nat) (ids : List S99) : Bool := ids.all fun id => decide (0 ≤ id.f0) && (decide (0 ≤ id.f1) && decide ((id.f1.toNat + 1) * 2 ^ id.f0.toNat ≤ n))
def impl_TreeRoot.f (k : Nat) (a0 a1 a2 a3 a4 a5 : Int) (l : List (List Int)) (size : Int) : Option (List Int × Bool) :=
  if IntKind.u64.wrap (l.length : Int) < size then some ([], false) else
  if l.length < 1099511627776 then (impl_texts.f k l).bind fun x =>
    if x.length < 1099511627776 ∧ allN (impl_toy_HashChildren.f k a0 a1 a2 a3 a4 a5) x x.length = true then
      (if size = 0 then (impl_toy_EmptyRoot.f k a0 a1 a2 a3 a4 a5).bind fun r => some (r, true)
       else (compact_RangeNodes.f k 0 size []).bind fun ids => if ids.length ≤ 100000 ∧ idsIn x.length ids = true then (foldR_ (impl_toy_HashChildren.f k a0 a1 a2 a3 a4 a5) (ids.map fun id => nodeV (impl_toy_HashChildren.f k a0 a1 a2 a3 a4 a5) x id.f0.toNat id.f1.toNat)).bind fun r => some (r, true) else none)
    else none
  else none
theorem node_mono {F F' : List Int → List Int → Option (List Int)} (h : ∀ a b, LeO (F a b) (F' a b)) (L : List (List Int)) : ∀ i j, LeO (node_ F L i j) (node_ F' L i j)
  | 0, _ => LeO.refl _
  | i + 1, j => by
    unfold node_
    exact LeO.bind (node_mono h L i _) (fun x => LeO.bind (node_mono h L i _) (fun y => h x y))
theorem foldR_mono {F F' : List Int → List Int → Option (List Int)} (h : ∀ a b, LeO (F a b) (F' a b)) : ∀ l, LeO (foldR_ F l) (foldR_ F' l)
  | [] => LeO.refl _
  | [x] => LeO.refl _
  | x :: y :: l => by
    unfold foldR_
    exact LeO.bind (foldR_mono h (y :: l)) (fun t => h x t)
theorem allN_some {F : List Int → List Int → Option (List Int)} {L : List (List Int)} {n i j : Nat} (h : allN F L n = true) (hn : n < 1099511627776) (hj : (j + 1) * 2 ^ i ≤ n) : node_ F L i j = some (nodeV F L i j) := by
  have hi : i < 64 := by
    apply Nat.lt_of_not_le
    intro h2
    have h3 := Nat.pow_le_pow_right (n := 2) (by decide) h2
    have h4 : 2 ^ i ≤ (j + 1) * 2 ^ i := Nat.le_mul_of_pos_left _ (by omega)
    have h5 : (2 : Nat) ^ 64 = 18446744073709551616 := rfl
    omega
  have h1 := List.all_eq_true.mp h i (List.mem_range.mpr hi)
  have h2 := List.all_eq_true.mp h1 j (List.mem_range.mpr (by
    have hp := Nat.two_pow_pos i
    have : j + 1 ≤ n / 2 ^ i := (Nat.le_div_iff_mul_le hp).mpr hj
    omega))
  unfold nodeV
  obtain ⟨v, hv⟩ := Option.isSome_iff_exists.mp h2
  rw [hv]; rfl
theorem node_step {F : List Int → List Int → Option (List Int)} {L : List (List Int)} {n m i : Nat} (h : allN F L n = true) (hn : n < 1099511627776) (hm : m < n) (hb : ∀ j, j ≤ i → m / 2 ^ j % 2 = 1) : F (nodeV F L i (m / 2 ^ i - 1)) (nodeV F L i (m / 2 ^ i)) = some (nodeV F L (i + 1) (m / 2 ^ (i + 1))) := by
  have h0 := hb i (Nat.le_refl _)
  have hc := carry (n := m) (ℓ := i + 1) (fun j hj => hb j (by omega))
  have hle : (m / 2 ^ (i + 1) + 1) * 2 ^ (i + 1) ≤ n := by
    have := Nat.div_mul_le_self (m + 1) (2 ^ (i + 1))
    rw [hc] at this; omega
  have h1 := allN_some h hn hle
  have e : m / 2 ^ (i + 1) = m / 2 ^ i / 2 := by rw [Nat.pow_succ, ← Nat.div_div_eq_div_mul]
  have hpow : 2 ^ (i + 1) = 2 * 2 ^ i := by rw [Nat.pow_succ]; omega
  have h2 := allN_some (i := i) (j := 2 * (m / 2 ^ (i + 1))) h hn (by
    have h4 : (2 * (m / 2 ^ (i + 1)) + 1) * 2 ^ i ≤ (m / 2 ^ (i + 1) + 1) * 2 ^ (i + 1) := by
      rw [hpow, ← Nat.mul_assoc]; exact Nat.mul_le_mul_right _ (by omega)
    omega)
  have h3 := allN_some (i := i) (j := 2 * (m / 2 ^ (i + 1)) + 1) h hn (by
    have h4 : (2 * (m / 2 ^ (i + 1)) + 1 + 1) * 2 ^ i ≤ (m / 2 ^ (i + 1) + 1) * 2 ^ (i + 1) := by
      rw [hpow, ← Nat.mul_assoc]; exact Nat.mul_le_mul_right _ (by omega)
    omega)
  rw [node_, h2, Option.bind_some, h3, Option.bind_some] at h1
  have e1 : 2 * (m / 2 ^ (i + 1)) = m / 2 ^ i - 1 := by omega
  have e2 : 2 * (m / 2 ^ (i + 1)) + 1 = m / 2 ^ i := by omega
  rw [e2, e1] at h1
  exact h1
theorem idsIn_at {n : Nat} {ids : List S99} {i : Nat} {id : S99} (h : idsIn n ids = true) (hi : ids[i]? = some id) : id = ⟨((id.f0.toNat : Nat) : Int), ((id.f1.toNat : Nat) : Int)⟩ ∧ (id.f1.toNat + 1) * 2 ^ id.f0.toNat ≤ n := by
  have h1 := List.all_eq_true.mp h id (List.mem_of_getElem? hi)
  simp only [Bool.and_eq_true, decide_eq_true_eq] at h1
  obtain ⟨h2, h3, h4⟩ := h1
  obtain ⟨f0, f1⟩ := id
  refine ⟨?_, h4⟩
  show (⟨f0, f1⟩ : S99) = ⟨((f0.toNat : Nat) : Int), ((f1.toNat : Nat) : Int)⟩
  rw [Int.toNat_of_nonneg h2, Int.toNat_of_nonneg h3]
theorem impl_TreeRoot.mono : ∀ a0 a1 a2 a3 a4 a5 l size k, LeO (impl_TreeRoot.f k a0 a1 a2 a3 a4 a5 l size) (impl_TreeRoot.f (k + 1) a0 a1 a2 a3 a4 a5 l size) := by
  intro a0 a1 a2 a3 a4 a5 l size k
  have hF : ∀ a b, LeO (impl_toy_HashChildren.f k a0 a1 a2 a3 a4 a5 a b) (impl_toy_HashChildren.f (k + 1) a0 a1 a2 a3 a4 a5 a b) := fun a b => impl_toy_HashChildren.mono _ _ _ _ _ _ _ _ _
  unfold impl_TreeRoot.f
  refine LeO.ite (LeO.refl _) (LeO.ite (LeO.bind (impl_texts.mono _ _) (fun x => ?_)) (LeO.refl _))
  by_cases h : x.length < 1099511627776 ∧ allN (impl_toy_HashChildren.f k a0 a1 a2 a3 a4 a5) x x.length = true
  case neg => rw [if_neg h]; exact LeO.none _
  have hV : ∀ i j, (j + 1) * 2 ^ i ≤ x.length → node_ (impl_toy_HashChildren.f (k + 1) a0 a1 a2 a3 a4 a5) x i j = some (nodeV (impl_toy_HashChildren.f k a0 a1 a2 a3 a4 a5) x i j) := fun i j hj => node_mono hF x i j _ (allN_some h.2 h.1 hj)
  have h' : x.length < 1099511627776 ∧ allN (impl_toy_HashChildren.f (k + 1) a0 a1 a2 a3 a4 a5) x x.length = true := ⟨h.1, List.all_eq_true.mpr (fun i _ => List.all_eq_true.mpr (fun j hj => by
    rw [hV i j (by
      have := List.mem_range.mp hj
      exact (Nat.le_div_iff_mul_le (Nat.two_pow_pos i)).mp (by omega))]; rfl))⟩
  rw [if_pos h, if_pos h']
  refine LeO.ite (LeO.bind (impl_toy_EmptyRoot.mono _ _ _ _ _ _ _) (fun _ => LeO.refl _)) (LeO.bind (compact_RangeNodes.mono _ _ _ _) (fun ids => ?_))
  by_cases h2 : ids.length ≤ 100000 ∧ idsIn x.length ids = true
  case neg => rw [if_neg h2]; exact LeO.none _
  rw [if_pos h2, if_pos h2]
  have e : (ids.map fun id => nodeV (impl_toy_HashChildren.f (k + 1) a0 a1 a2 a3 a4 a5) x id.f0.toNat id.f1.toNat) = ids.map fun id => nodeV (impl_toy_HashChildren.f k a0 a1 a2 a3 a4 a5) x id.f0.toNat id.f1.toNat := by
    refine List.map_congr_left (fun id hid => ?_)
    obtain ⟨i, hi⟩ := List.getElem?_of_mem hid
    have := hV _ _ (idsIn_at h2.2 hi).2
    unfold nodeV at this ⊢
    rw [this]; rfl
  rw [e]
  exact LeO.bind (foldR_mono hF _) (fun _ => LeO.refl _)
theorem looks_of {n : Nat} {ids : List S99} {hs : List SH} {rows : List (List SH)} (hl : rows.length = hs.length) (hlen : hs.length = blen n) (hmid : Mid n 0 rows) (hid : idsIn n ids = true) :
    Looks ids rows (ids.map fun id => ((rows.getD id.f0.toNat []).getD id.f1.toNat ((none, 0, 0) : SH))) := by
  refine ⟨by rw [List.length_map], fun i id hi => ?_⟩
  obtain ⟨h1, h2⟩ := idsIn_at hid hi
  have hp := Nat.two_pow_pos id.f0.toNat
  have hle : id.f1.toNat + 1 ≤ n / 2 ^ id.f0.toNat := (Nat.le_div_iff_mul_le hp).mpr h2
  have ha : id.f0.toNat < rows.length := by
    rw [hl, hlen]
    apply Nat.lt_of_not_le
    intro h3
    rw [Nat.div_eq_of_lt (blen_le.1 h3)] at hle
    omega
  have hr := hmid id.f0.toNat _ (List.getElem?_eq_getElem ha)
  rw [if_neg (show ¬ id.f0.toNat < 0 by omega), Nat.add_zero] at hr
  refine ⟨id.f0.toNat, id.f1.toNat, rows[id.f0.toNat], (rows[id.f0.toNat])[id.f1.toNat]'(by omega), h1, List.getElem?_eq_getElem ha, List.getElem?_eq_getElem (by omega), ?_⟩
  rw [List.getElem?_map, hi]
  simp only [Option.map_some, List.getD_eq_getElem?_getD, List.getElem?_eq_getElem ha, Option.getD_some]
  rw [List.getElem?_eq_getElem (show id.f1.toNat < (rows[id.f0.toNat]).length by omega)]
  rfl
theorem looks_txt {w : World} {tb base g : Nat} {hv : Value} {n : Int} {H : SH} {hs : List SH} {rows : List (List SH)} {val : Nat → Nat → List Int} {ids : List S99} {ss : List SH} (T : TreeAt w tb base g hv n H hs rows val) (lk : Looks ids rows ss) :
    ∀ (i : Nat) (s : SH) (b : List Int), ss[i]? = some s → (ids.map fun id => val id.f0.toNat id.f1.toNat)[i]? = some b → Txt tb w s b := by
  intro i s b hs hb
  rw [List.getElem?_map] at hb
  obtain ⟨id, hid, rfl⟩ := Option.map_eq_some_iff.mp hb
  obtain ⟨a, c, rs, s', rfl, h1, h2, h3⟩ := lk.2 i id hid
  obtain rfl := Option.some.inj (hs.symm.trans h3)
  exact T.txt a c rs s h1 h2
set_option maxHeartbeats 16000000 in
set_option maxRecDepth 100000 in
theorem impl_TreeRoot.calls (k : Nat) (a0 a1 a2 a3 a4 a5 : Int) (A1 : Option Addr) (c1 : Nat) (l1 : List (List Int)) (size : Int) (r0 : List Int) (r1 : Bool) (w : World) (hG : Glob w) (hr1 : Kd.C (Kd.slice 5 (Kd.int .u8)) w A1 l1.length l1) (hc1 : l1.length ≤ c1) (h : impl_TreeRoot.f k a0 a1 a2 a3 a4 a5 l1 size = some (r0, r1)) :
    Calls Tryd.prog 14 #[.agg #[.int .i64 a0, .int .i64 a1, .int .i64 a2, .int .u64 a3, .int .u64 a4, .int .u64 a5], .slice A1 l1.length c1, .int .u64 size] w fun e w' => ∃ v0_, e = .returned (.tuple #[v0_, .bool r1]) ∧ Kd.R (Kd.int .u8) 5 w' w.heap.size (fun _ => True) v0_ r0 ∧ Below w.heap.size w w' := by
  unfold impl_TreeRoot.f at h
  by_cases hs : IntKind.u64.wrap (l1.length : Int) < size
  · rw [if_pos hs] at h
    have h := Option.some.inj h
    simp only [Prod.mk.injEq] at h
    obtain ⟨rfl, rfl⟩ := h
    have b0 : decide (IntKind.u64.wrap (l1.length : Int) < size) = true := decide_eq_true hs
    clear hs hr1 hc1 hG
    go_enter Tryd.func14, Tryd.ntmps14
    go_wp2
    go_ret2
    exact ⟨_, rfl, Kd.R_nil _ _ _ _ _, by repeat (first | exact Below.refl _ _ | apply below_alloc | apply pw_below_drewN | apply below_drew1)⟩
  rw [if_neg hs] at h
  by_cases hl : l1.length < 1099511627776
  case neg => rw [if_neg hl] at h; cases h
  rw [if_pos hl] at h
  obtain ⟨x, hx, h⟩ := Option.bind_eq_some_iff.mp h
  by_cases hal : x.length < 1099511627776 ∧ allN (impl_toy_HashChildren.f k a0 a1 a2 a3 a4 a5) x x.length = true
  case neg => rw [if_neg hal] at h; cases h
  rw [if_pos hal] at h
  have b0 : decide (IntKind.u64.wrap (l1.length : Int) < size) = false := decide_eq_false hs
  have HX := Aside0.mk hx
  have HAL := Aside0.mk hal
  have HR1 := Aside0.mk hr1
  have HC1 := Aside0.mk hc1
  have H := Aside0.mk h
  have HG := Aside0.mk hG
  clear hs hl hx hal h hr1 hc1 hG
  go_enter Tryd.func14, Tryd.ntmps14
  go_wp2_with (fail)
  refine (treeNew.calls _ _).mono ?_
  rintro e w1 ⟨rfl, rfl⟩
  dsimp only
  obtain ⟨W0, hW0⟩ : ∃ W0, w.alloc (Obj.cells #[.int .i64 a0, .int .i64 a1, .int .i64 a2, .int .u64 a3, .int .u64 a4, .int .u64 a5] 24) = W0 := ⟨_, rfl⟩
  rw [hW0]
  have HB0 := Aside0.mk (show Below w.heap.size w W0 by rw [← hW0]; exact below_alloc (Below.refl _ _) _)
  clear hW0
  obtain ⟨W1, hW1⟩ : ∃ W1, W0.alloc (Obj.cells #[.iface 82 (toyV a0 a1 a2 a3 a4 a5), .int .u64 0, .slice none 0 0] 137) = W1 := ⟨_, rfl⟩
  have hW1' : W0.alloc (Obj.cells #[.iface 82 (.agg #[.int .i64 a0, .int .i64 a1, .int .i64 a2, .int .u64 a3, .int .u64 a4, .int .u64 a5]), .int .u64 0, .slice none 0 0] 137) = W1 := hW1
  rw [hW1']
  have bk := Aside0.mk (show W1.heap[W0.heap.size]? = some (.cells #[.iface 82 (toyV a0 a1 a2 a3 a4 a5), .int .u64 0, .slice none 0 0] 137 (0, 0)) by rw [← hW1]; exact blk_new W0 _)
  have HB1 := Aside0.mk (show Below w.heap.size w W1 by rw [← hW1]; exact below_alloc HB0.out _)
  have HGE := Aside0.mk (show w.heap.size ≤ W0.heap.size from HB0.out.size)
  have HGL := Aside0.mk (show W0.heap.size < W1.heap.size from (Array.getElem?_eq_some_iff.1 bk.out).1)
  clear hW1 hW1'
  generalize W0.heap.size = g at bk HGE HGL ⊢
  go_wp2_with (fail)
  refine (impl_texts.calls k A1 c1 l1 x W1 (Kd.C_below HR1.out HB1.out) HC1.out HX.out).mono ?_
  rintro e w2 ⟨v2, rfl, hS, hb⟩
  obtain ⟨A2, c2, e2⟩ := Kd.S_slice hS
  subst e2
  have HB2 := Aside0.mk (HB1.out.trans (hb.mono HB1.out.size))
  have bk2 := Aside0.mk ((hb.block g HGL.out).trans bk.out)
  obtain ⟨ss, hsl, hRw, hTx⟩ := rows_SH (Kd.S_R hS)
  have HSL := Aside0.mk hsl
  have HRw := Aside0.mk (show Rw w2 w.heap.size (.slice A2 x.length c2) ss from Kd.R_lower hRw HB1.out.size)
  have HTx := Aside0.mk (show ∀ (j : Nat) (s : SH), ss[j]? = some s → Txt w.heap.size w2 s (nodeV (impl_toy_HashChildren.f k a0 a1 a2 a3 a4 a5) x 0 j) from fun j s hj => by
    have hjl : j < x.length := by have := (List.getElem?_eq_some_iff.1 hj).1; omega
    have h1 := hTx j s _ hj (List.getElem?_eq_getElem hjl)
    have e : nodeV (impl_toy_HashChildren.f k a0 a1 a2 a3 a4 a5) x 0 j = x[j] := by
      unfold nodeV node_
      rw [List.getElem?_eq_getElem hjl]; rfl
    rw [e]
    exact Txt.of_R h1 HB1.out.size)
  clear hS hb hsl hRw hTx bk HB1
  dsimp only
  have HV := Aside0.mk (show ∀ m i, m < x.length → (∀ j, j ≤ i → m / 2 ^ j % 2 = 1) → impl_toy_HashChildren.f k a0 a1 a2 a3 a4 a5 (nodeV (impl_toy_HashChildren.f k a0 a1 a2 a3 a4 a5) x i (m / 2 ^ i - 1)) (nodeV (impl_toy_HashChildren.f k a0 a1 a2 a3 a4 a5) x i (m / 2 ^ i)) = some (nodeV (impl_toy_HashChildren.f k a0 a1 a2 a3 a4 a5) x (i + 1) (m / 2 ^ (i + 1))) from fun m i hm hb => node_step HAL.out.2 HAL.out.1 hm hb)
  go_wp2_with (fail)
  refine (treeAppend.calls k a0 a1 a2 a3 a4 a5 w.heap.size g (nodeV (impl_toy_HashChildren.f k a0 a1 a2 a3 a4 a5) x) A2 c2 ss x.length w2 HB2.out.size (Array.getElem?_eq_some_iff.1 bk2.out).1 HAL.out.1 HSL.out ⟨bk2.out, Kd.R_nil _ _ _ _ _, rfl, fun i h hi => by simp at hi, fun i j h h' b hi => by simp at hi, fun i j rs s hi => by simp at hi⟩ HRw.out HTx.out HV.out).mono ?_
  rintro e w3 ⟨rfl, hGr⟩
  obtain ⟨H3, hs3, rows3, hT3, hlen3, hmid3, hF3, hP3⟩ := hGr
  have HT3 := Aside0.mk hT3
  have HLEN3 := Aside0.mk hlen3
  have HMID3 := Aside0.mk hmid3
  have HB3 := Aside0.mk (show Below w.heap.size w w3 from HB2.out.trans (hF3.below HB2.out.size HGE.out))
  clear hT3 hlen3 hmid3 hF3 hP3
  dsimp only
  have h := H.out
  by_cases h0 : size = 0
  · subst h0
    rw [if_pos rfl] at h
    obtain ⟨r, hr, h⟩ := Option.bind_eq_some_iff.mp h
    have h := Option.some.inj h
    simp only [Prod.mk.injEq] at h
    obtain ⟨rfl, rfl⟩ := h
    have HR := Aside0.mk hr
    clear hr H h
    go_wp2_with (fail)
    refine (treeHashAt0.calls k a0 a1 a2 a3 a4 a5 w.heap.size w2.heap.size g _ H3 hs3 rows3 _ r w3 HT3.out HR.out).mono ?_
    rintro e w4 ⟨v4, rfl, h1, h2⟩
    have H1 := Aside0.mk h1
    have H2 := Aside0.mk h2
    clear h1 h2
    dsimp only
    go_wp2
    go_ret2
    exact ⟨_, rfl, Kd.R_lower H1.out HB3.out.size, HB3.out.trans (H2.out.mono HB3.out.size)⟩
  · rw [if_neg h0] at h
    obtain ⟨ids, hids, h⟩ := Option.bind_eq_some_iff.mp h
    by_cases hid : ids.length ≤ 100000 ∧ idsIn x.length ids = true
    case neg => rw [if_neg hid] at h; cases h
    rw [if_pos hid] at h
    obtain ⟨r, hr, h⟩ := Option.bind_eq_some_iff.mp h
    have h := Option.some.inj h
    simp only [Prod.mk.injEq] at h
    obtain ⟨rfl, rfl⟩ := h
    have HR := Aside0.mk hr
    have HIDS := Aside0.mk hids
    have HID := Aside0.mk hid
    have H0 := Aside0.mk h0
    clear hr H h hids hid h0
    have HLK := Aside0.mk (looks_of HT3.out.len HLEN3.out HMID3.out HID.out.2)
    go_wp2_with (fail)
    refine (treeHashAt.calls k a0 a1 a2 a3 a4 a5 w.heap.size w2.heap.size g _ H3 hs3 rows3 _ size ids _ _ r w3 (HG.out.below HB3.out) HB3.out.size HT3.out H0.out HIDS.out HID.out.1 HLK.out (by rw [List.length_map, List.length_map]) (looks_txt HT3.out HLK.out) HR.out).mono ?_
    rintro e w4 ⟨v4, rfl, h1, h2⟩
    have H1 := Aside0.mk h1
    have H2 := Aside0.mk h2
    clear h1 h2
    dsimp only
    go_wp2
    go_ret2
    exact ⟨_, rfl, H1.out, HB3.out.trans (H2.out.mono HB3.out.size)⟩
end Go.Proofs.YtielnphmcaecdaaDoor.PAll
namespace Go.Proofs.YtielnphmcaecdaaDoor.PAll
open Go.IntWalk Go.RowKit Go.Proofs.YtielnphmcaecdaaDoorW.PrintWords Go.Proofs.YtielnphmcaecdaaDoorW.PrintLast Go.Proofs.YtielnphmcaecdaaDoorW.PrintMore
set_option linter.unusedVariables false
def upB_ (H : List Int → List Int → Option (List Int)) : List (List Int) → List Int → Option (List Int)
  | [], s => some s
  | x :: xs, s => (H x s).bind fun t => upB_ H xs t
def rehL (b e : Nat) (xs : List (List Int)) (f : List Int) : List (List Int) := if b < e then xs.take b ++ f :: xs.drop e else xs
def rehT (b e i : Nat) (xs : List (List Int)) (f : List Int) : List (List Int) := if i ≤ b ∧ b < e then (xs.take b).drop i ++ f :: xs.drop e else xs.drop i
theorem rehT_zero (b e : Nat) (xs : List (List Int)) (f : List Int) : rehT b e 0 xs f = rehL b e xs f := by
  unfold rehT rehL
  by_cases h : b < e
  · rw [if_pos ⟨Nat.zero_le _, h⟩, if_pos h, List.drop_zero]
  · rw [if_neg (fun h2 => h h2.2), if_neg h, List.drop_zero]
theorem rehT_in {b e : Nat} {xs : List (List Int)} (f : List Int) (h : b < e) (he : e ≤ xs.length) : rehT b e b xs f = f :: rehT b e e xs f := by
  unfold rehT
  rw [if_pos ⟨Nat.le_refl _, h⟩, if_neg (by omega), List.drop_eq_nil_of_le (by rw [List.length_take]; omega)]; rfl
theorem rehT_out {b e i : Nat} {xs : List (List Int)} (f : List Int) (h : i < b ∨ e ≤ i ∨ e ≤ b) (hbe : b < e → e ≤ xs.length) (hi : i < xs.length) : rehT b e i xs f = xs.getD i [] :: rehT b e (i + 1) xs f := by
  unfold rehT
  rw [List.getD_eq_getElem?_getD, List.getElem?_eq_getElem hi, Option.getD_some]
  by_cases hc : i < b ∧ b < e
  · rw [if_pos ⟨by omega, hc.2⟩, if_pos ⟨by omega, hc.2⟩]
    have := hbe hc.2
    rw [List.drop_eq_getElem_cons (show i < (xs.take b).length by rw [List.length_take]; omega), List.getElem_take]; rfl
  · by_cases h2 : i ≤ b ∧ b < e
    · omega
    · rw [if_neg h2, if_neg (by omega), List.drop_eq_getElem_cons hi]
theorem upB_step {H : List Int → List Int → Option (List Int)} {xs : List (List Int)} {j e : Nat} {s f : List Int} (h : upB_ H ((xs.take e).drop j) s = some f) (hj : j < e) (he : e ≤ xs.length) :
    ∃ t, H (xs.getD j []) s = some t ∧ upB_ H ((xs.take e).drop (j + 1)) t = some f := by
  rw [List.drop_eq_getElem_cons (show j < (xs.take e).length by rw [List.length_take]; omega), upB_] at h
  obtain ⟨t, h1, h2⟩ := Option.bind_eq_some_iff.1 h
  refine ⟨t, ?_, h2⟩
  rw [List.getD_eq_getElem?_getD, List.getElem?_eq_getElem (by omega), Option.getD_some, ← h1, List.getElem_take]
theorem heads_C {w : World} {base B : Nat} {A : Option Addr} {n c : Nat} {ok : Nat → Prop} {hs : List SH} {out : List (List Int)} (h : kSH.R 27 w base ok (.slice A n c) hs) (hl : out.length ≤ hs.length)
    (ht : ∀ (j : Nat) (s : SH) (b : List Int), hs[j]? = some s → out[j]? = some b → Txt B w s b) : Kd.C (Kd.slice 5 (Kd.int .u8)) w A out.length out := by
  obtain ⟨h1, h2, h3⟩ := Kd.R_reads' h
  refine ⟨rfl, Nat.le_trans hl h3.2.1, fun hp => ?_⟩
  obtain ⟨ad, e, hc⟩ := h3.2.2 (by omega)
  refine ⟨ad, e, fun j b hj => ?_⟩
  have hjl : j < hs.length := by have := (List.getElem?_eq_some_iff.1 hj).1; omega
  obtain ⟨⟨As, ns, c1⟩, hsj⟩ : ∃ s, hs[j]? = some s := ⟨_, List.getElem?_eq_getElem hjl⟩
  obtain ⟨cs, k1, k2, k3⟩ := hc j _ hsj
  obtain ⟨t1, t2, t3⟩ := (ht j _ b hsj hj).read
  refine ⟨cs, k1, ⟨As, c1, ?_, t2, t3⟩, k3⟩
  rw [← t1]; exact k2
theorem put_hd {W : World} {base g n cap : Nat} {ok : Nat → Prop} {hs : List SH} (hS : kSH.R 27 W base ok (.slice (some ⟨g, 0, none⟩) n cap) hs) (j : Nat) (h : SH) :
    kSH.R 27 (W.setCell ⟨g, j, none⟩ (shE h)) base ok (.slice (some ⟨g, 0, none⟩) n cap) (hs.set j h) ∧ Pres5 W (W.setCell ⟨g, j, none⟩ (shE h)) ∧ ∀ (q t : Nat) (cells : Array Value), t ≠ 27 → W.heap[q]? = some (.cells cells t (0, 0)) → (W.setCell ⟨g, j, none⟩ (shE h)).heap[q]? = some (.cells cells t (0, 0)) := by
  obtain ⟨cH, hcH⟩ := Kd.R_typed hS g rfl
  have := Kd.R_putn (enc := shE) hS (j : Int) h
  rw [Int.toNat_natCast] at this
  refine ⟨this, Pres5.set hcH (by decide) j (shE h), fun q t cells ht hq => ?_⟩
  rw [Below.heap_setCell W ⟨g, j, none⟩ (shE h) q (blk_other hq hcH ht)]; exact hq
theorem outs_put {w w' : World} {base : Nat} {hs : List SH} {out : List (List Int)} {h : SH} {x : List Int} (hl : out.length < hs.length) (ho : ∀ (j : Nat) (s : SH) (b : List Int), hs[j]? = some s → out[j]? = some b → Txt base w s b) (hp : Pres5 w w') (hx : Txt base w h x) :
    ∀ (j : Nat) (s : SH) (b : List Int), (hs.set out.length h)[j]? = some s → (out ++ [x])[j]? = some b → Txt base w' s b := by
  intro j s b h1 h2
  by_cases e : j = out.length
  · subst e
    rw [List.getElem?_set_self hl] at h1
    rw [List.getElem?_append_right (Nat.le_refl _), Nat.sub_self] at h2
    obtain rfl := Option.some.inj h1
    obtain rfl := Option.some.inj h2
    exact hx.pres hp
  · have hj : j < out.length := by
      have := (List.getElem?_eq_some_iff.1 h2).1
      rw [List.length_append, List.length_singleton] at this; omega
    rw [List.getElem?_set_ne (by omega)] at h1
    rw [List.getElem?_append_left hj] at h2
    exact (ho j s b h1 h2).pres hp
theorem snoc_len (out : List (List Int)) (x : List Int) : ((out ++ [x]).length : Int) = (out.length : Int) + 1 := by rw [List.length_append]; rfl
end Go.Proofs.YtielnphmcaecdaaDoor.PAll
namespace Go.Proofs.YtielnphmcaecdaaDoor.PAll
open Go.RowKit Go.Proofs.YtielnphmcaecdaaDoorW.PrintWords Go.Proofs.YtielnphmcaecdaaDoorW.PrintLast Go.Proofs.YtielnphmcaecdaaDoorW.PrintMore
set_option linter.unusedVariables false
theorem k99_cell {W : World} {base g n cap : Nat} {ok : Nat → Prop} {xs : List S99} {x : S99} {i : Nat} (h : Kd.R k99 99 W base ok (.slice (some ⟨g, 0, none⟩) n cap) xs) (hi : xs[i]? = some x) :
    W.cell? ⟨g, i * 2, none⟩ = some (.int .u64 x.f0) ∧ W.cell? ⟨g, i * 2 + 1, none⟩ = some (.int .u64 x.f1) ∧ W.frozen? ⟨g, i * 2, none⟩ = false ∧ W.frozen? ⟨g, i * 2 + 1, none⟩ = false := by
  have hl := (List.getElem?_eq_some_iff.1 hi).1
  have hn := (Kd.R_reads' h).1
  obtain ⟨c, hcl, hM, hcc, hfr⟩ := Kd.R_elem h x (i : Int) (by omega) (by omega)
  rw [Int.toNat_natCast] at hM hcc hfr
  have e : xs.getD i x = x := by rw [List.getD_eq_getElem?_getD, hi]; rfl
  rw [e] at hM
  obtain rfl := k99_openM hM
  exact ⟨hcc 0 _ rfl, hcc 1 _ rfl, hfr 0, hfr 1⟩
theorem k99_put {W : World} {base g n cap : Nat} {ok : Nat → Prop} {xs : List S99} {i : Nat} (h : Kd.R k99 99 W base ok (.slice (some ⟨g, 0, none⟩) n cap) xs) (hi : i < n) (y : S99) :
    Kd.R k99 99 ((W.setCell ⟨g, i * 2, none⟩ (.int .u64 y.f0)).setCell ⟨g, i * 2 + 1, none⟩ (.int .u64 y.f1)) base ok (.slice (some ⟨g, 0, none⟩) n cap) (xs.set i y) := by
  obtain ⟨c, hcl, hM, hcc, hfr⟩ := Kd.R_elem h y (i : Int) (by omega) (by omega)
  have S := Kd.R_seg h (i : Int) (by omega) (by omega) (seg := [.int .u64 y.f0, .int .u64 y.f1]) (j := 0) (okp := fun _ => False) hcl hcc (Nat.le_refl 2) (x' := y) (by
    have : c.length = 2 := hcl
    rw [List.take_zero, List.nil_append, List.drop_of_length_le (by simp; omega), List.append_nil]
    exact k99_mkM _ _ _ y) (fun _ h => h.elim)
  rw [Int.toNat_natCast] at S
  exact S.1
theorem grown_set {W : World} {g o : Nat} {v : Value} : W.grownBy (W.setCell ⟨g, o, none⟩ v) (some g) :=
  ⟨rfl, rfl, rfl, by rw [World.size_setCell]; exact Nat.le_refl _, fun k _ hk => Below.heap_setCell W ⟨g, o, none⟩ v k (fun e => hk (by rw [e]))⟩
theorem grown_trans {a b c : World} {row : Option Nat} (h : a.grownBy b row) (k : b.grownBy c row) : a.grownBy c row :=
  ⟨k.os.trans h.os, k.tape.trans h.tape, k.output.trans h.output, Nat.le_trans h.size k.size, fun i hi hne => (k.block i (Nat.lt_of_lt_of_le hi h.size) hne).trans (h.block i hi hne)⟩
theorem grown_refl (w : World) (row : Option Nat) : w.grownBy w row := ⟨rfl, rfl, rfl, Nat.le_refl _, fun _ _ _ => rfl⟩
theorem grown_drew {a b : World} {row : Option Nat} (h : a.grownBy b row) : a.grownBy b.drew row := ⟨h.os, h.tape, h.output, h.size, h.block⟩
def Rev (xs cur : List S99) (m N t : Nat) : Prop := cur.length = xs.length ∧ (∀ p, p < m → cur[p]? = xs[p]?) ∧ ∀ p, p < N → cur[m + p]? = if p < t ∨ N - t ≤ p then xs[m + (N - 1 - p)]? else xs[m + p]?
theorem Rev.zero (xs : List S99) (m N : Nat) : Rev xs xs m N 0 := ⟨rfl, fun _ _ => rfl, fun p hp => by rw [if_neg (by omega)]⟩
theorem Rev.done {xs cur : List S99} {m N t : Nat} (h : Rev xs cur m N t) (hl : xs.length = m + N) (ht : N ≤ 2 * t + 1) : cur = xs.take m ++ (xs.drop m).reverse := by
  obtain ⟨h1, h2, h3⟩ := h
  apply List.ext_getElem?
  intro p
  by_cases hp : p < m
  · rw [List.getElem?_append_left (by rw [List.length_take]; omega), List.getElem?_take_of_lt hp]
    exact h2 p hp
  · rw [List.getElem?_append_right (by rw [List.length_take]; omega), List.length_take, Nat.min_eq_left (by omega)]
    by_cases hq : p < m + N
    · obtain ⟨q, rfl⟩ : ∃ q, p = m + q := ⟨p - m, by omega⟩
      rw [h3 q (by omega), Nat.add_sub_cancel_left, List.getElem?_reverse (by rw [List.length_drop]; omega), List.getElem?_drop, List.length_drop]
      split
      · congr 1; omega
      · congr 1; omega
    · rw [List.getElem?_eq_none (by omega), List.getElem?_eq_none (by rw [List.length_reverse, List.length_drop]; omega)]
theorem Rev.next {xs cur : List S99} {m N t : Nat} {a b : S99} (h : Rev xs cur m N t) (hl : xs.length = m + N) (ht : 2 * t + 1 < N) (ha : cur[m + t]? = some a) (hb : cur[m + (N - 1 - t)]? = some b) : Rev xs ((cur.set (m + t) b).set (m + (N - 1 - t)) a) m N (t + 1) := by
  obtain ⟨h1, h2, h3⟩ := h
  refine ⟨by rw [List.length_set, List.length_set]; exact h1, fun p hp => by rw [List.getElem?_set_ne (by omega), List.getElem?_set_ne (by omega)]; exact h2 p hp, fun p hp => ?_⟩
  have ea := h3 t (by omega)
  rw [if_neg (by omega), ha] at ea
  have eb := h3 (N - 1 - t) (by omega)
  rw [if_neg (by omega), hb] at eb
  by_cases e1 : p = N - 1 - t
  · subst e1
    rw [List.getElem?_set_self (by rw [List.length_set]; omega), if_pos (by omega), ea]
    congr 1; omega
  · rw [List.getElem?_set_ne (by omega)]
    by_cases e2 : p = t
    · subst e2
      rw [List.getElem?_set_self (by omega), if_pos (by omega), eb]
    · rw [List.getElem?_set_ne (by omega), h3 p hp]
      by_cases c : p < t ∨ N - t ≤ p
      · rw [if_pos c, if_pos (by omega)]
      · rw [if_neg c, if_neg (by omega)]
set_option maxHeartbeats 16000000 in
set_option maxRecDepth 100000 in
theorem reverse.calls (g n cap m N c : Nat) (xs : List S99) (W : World) (base : Nat) (ok : Nat → Prop) (hR : Kd.R k99 99 W base ok (.slice (some ⟨g, 0, none⟩) n cap) xs) (hn : n = m + N) (hN : 0 < N) (hl : N ≤ 100000) :
    Calls Tryd.prog 115 #[.slice (some ⟨g, m * 2, none⟩) N c] W fun e w' => e = .returned (.tuple #[]) ∧ Kd.R k99 99 w' base ok (.slice (some ⟨g, 0, none⟩) n cap) (xs.take m ++ (xs.drop m).reverse) ∧ W.grownBy w' (some g) := by
  have hxl : xs.length = m + N := by rw [← hn]; exact (Kd.R_reads' hR).1.symm
  have HR := Aside0.mk hR
  have HN := Aside0.mk hn
  have HXL := Aside0.mk hxl
  have HPOS := Aside0.mk hN
  have hl1 : (N : Int) ≤ 100000 := by omega
  have hl0 : 0 ≤ (N : Int) := by omega
  clear hR hn hxl hN hl
  go_enter Tryd.func115, Tryd.ntmps115
  go_wp2
  try simp only [Act.put, List.setIfInBounds_toArray, List.set_cons_zero, List.set_cons_succ]
  go_loopg [2, 3] (N / 2) (fun kq v2 v3 w' => ∃ (t : Nat) (cur : List S99), v2 = .int .i64 (t : Int) ∧ v3 = .int .i64 ((N : Int) - 1 - (t : Int)) ∧ Aside0 (t + kq = N / 2) ∧ Aside0 (Rev xs cur m N t) ∧ Aside0 (Kd.R k99 99 w' base ok (.slice (some ⟨g, 0, none⟩) n cap) cur) ∧ Aside0 (W.grownBy w' (some g)))
  case atStart => exact ⟨0, xs, rfl, by congr 1; omega, ⟨by omega⟩, ⟨Rev.zero _ _ _⟩, HR, ⟨grown_refl _ _⟩⟩
  case round =>
    clear HR
    obtain ⟨t, cur, rfl, rfl, HT, HC, HR, HG⟩ := hrel
    cases gk with
    | zero =>
      have b0 : decide ((t : Int) < (N : Int) - 1 - (t : Int)) = false := decide_eq_false (by have := HT.out; omega)
      have ecur := HC.out.done HXL.out (by have := HT.out; omega)
      subst ecur
      go_wp2
      go_end0
      exact ⟨rfl, HR.out, HG.out⟩
    | succ k1 =>
      have ht : 2 * t + 1 < N := by have := HT.out; omega
      obtain ⟨j, hj⟩ : ∃ j, j = N - 1 - t := ⟨_, rfl⟩
      rw [show (N : Int) - 1 - (t : Int) = (j : Int) by omega]
      have hcl : cur.length = m + N := by rw [HC.out.1]; exact HXL.out
      obtain ⟨a, ha⟩ : ∃ a, cur[m + t]? = some a := ⟨_, List.getElem?_eq_getElem (by omega)⟩
      obtain ⟨b, hb⟩ : ∃ b, cur[m + j]? = some b := ⟨_, List.getElem?_eq_getElem (by omega)⟩
      obtain ⟨x1, x2, f1, f2⟩ := k99_cell HR.out ha
      obtain ⟨y1, y2, g1, g2⟩ := k99_cell HR.out hb
      rw [Nat.add_mul] at x1 x2 f1 f2 y1 y2 g1 g2
      have b0 : decide ((t : Int) < (j : Int)) = true := decide_eq_true (by omega)
      have b1 : decide (t < j) = true := decide_eq_true (by omega)
      have d0 : 0 ≤ (t : Int) := by omega
      have d1 : (t : Int) < (N : Int) := by omega
      have d2 : decide ((t : Int) < (N : Int)) = true := decide_eq_true d1
      have d3 : decide (t < N) = true := decide_eq_true (by omega)
      have e0 : 0 ≤ (j : Int) := by omega
      have e1 : (j : Int) < (N : Int) := by omega
      have e2 : decide ((j : Int) < (N : Int)) = true := decide_eq_true e1
      have e3 : decide (j < N) = true := decide_eq_true (by omega)
      have hR1 := k99_put HR.out (i := m + t) (by have := HN.out; omega) b
      obtain ⟨z1, z2, w1, w2⟩ := k99_cell hR1 (i := m + j) (x := b) (by rw [List.getElem?_set_ne (by omega)]; exact hb)
      have hR2 := k99_put hR1 (i := m + j) (by have := HN.out; omega) a
      rw [Nat.add_mul, Nat.add_mul] at z1 z2 w1 w2
      have z3 := (World.cell?_setCell_other _ ⟨g, m * 2 + j * 2, none⟩ ⟨g, m * 2 + j * 2 + 1, none⟩ (.int .u64 a.f0) (by simp)).trans z2
      have w3 : World.frozen? (World.setCell _ ⟨g, m * 2 + j * 2, none⟩ (.int .u64 a.f0)) ⟨g, m * 2 + j * 2 + 1, none⟩ = false := (World.frozen?_setCell _ _ _ _).trans w2
      have HR2 := Aside0.mk hR2
      clear hR1 hR2
      have HJ := Aside0.mk hj
      have HTT := Aside0.mk ht
      have HA := Aside0.mk ha
      have HBB := Aside0.mk hb
      clear hj ht hcl ha hb
      go_wp2
      go_region
      all_goals go_wp2
      go_roundg k1
      case measure => omega
      case rel =>
        refine ⟨t + 1, (cur.set (m + t) b).set (m + j) a, rfl, by have := HJ.out; congr 1; omega, ⟨by have := HT.out; omega⟩, ⟨?_⟩, ⟨?_⟩, ⟨?_⟩⟩
        · have e := HJ.out
          subst e
          exact Rev.next HC.out HXL.out HTT.out HA.out HBB.out
        · have h := Kd.R_drew HR2.out
          rw [Nat.add_mul, Nat.add_mul] at h
          exact h
        · exact grown_drew (grown_trans HG.out (grown_trans grown_set (grown_trans grown_set (grown_trans grown_set grown_set))))
end Go.Proofs.YtielnphmcaecdaaDoor.PAll
namespace Go.Proofs.YtielnphmcaecdaaDoorW.PrintWords
open Go.RowKit
section
variable {P : Program} {ops : Array Oper} {rest : List Oper} {o : Oper} {a : Act} {Q : Exit → Act → World → Prop} {Kc : Act → World → Prop}
namespace Kd
variable {α : Type}
theorem cap_row (d : Kd α) {W : World} (base e : Nat) {n : Int} {z : Value} {bytes : Nat} (hb0 : 0 < bytes) (hl : n.toNat * bytes ≤ 281474976710656) (hbase : base ≤ W.heap.size) {ok : Nat → Prop} (hfresh : ok W.heap.size) :
    d.R e (W.alloc (.cells (madeCells z.cells (n.toNat * d.sz)) e)) base ok (.slice (some ⟨W.heap.size, 0, none⟩) 0 n.toNat) ([] : List α) := by
  have hm : n.toNat ≤ 281474976710656 := Nat.le_trans (Nat.le_mul_of_pos_right _ hb0) hl
  refine ⟨fun k hk => ?_, [], ⟨by simp, .inr ⟨W.heap.size, n.toNat, madeCells z.cells (n.toNat * d.sz), rfl, hbase, blk_new W _, Nat.zero_le _, by unfold maxLen; omega, by rw [size_madeCells], by simp⟩⟩, ⟨by simp, fun j p hj => by simp at hj⟩⟩
  have : W.heap.size = k := by simpa [Value.ownBlock] using hk
  subst this
  exact hfresh
end Kd
end
end Go.Proofs.YtielnphmcaecdaaDoorW.PrintWords
