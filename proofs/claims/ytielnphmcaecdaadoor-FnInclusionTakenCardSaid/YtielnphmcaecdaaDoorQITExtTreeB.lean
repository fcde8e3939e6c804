-- Written by a program of this session (wip/tools)
import Derived.Test.YtielnphmcaecdaaDoorQITMath
import Derived.Test.YtielnphmcaecdaaDoorQITPAllx2
import Derived.Outline
import Derived.Deep.QuietTactic
import Derived.BigQuiet
import Derived.Deep.RegionWith
import Derived.Deep.RegionLaw
import Derived.IntWalk
import Derived.Test.YtielnphmcaecdaaDoorQITPAllx4
namespace Go.Proofs.YtielnphmcaecdaaDoor.PAll
open Go.RowKit Go.Proofs.YtielnphmcaecdaaDoor.Mth Go.Proofs.YtielnphmcaecdaaDoorW.PrintWords Go.Proofs.YtielnphmcaecdaaDoorW.PrintLast Go.Proofs.YtielnphmcaecdaaDoorW.PrintMore
set_option linter.unusedVariables false
theorem bit_is (n i : Nat) (hn : n < 18446744073709551616) : Go.bits .and .u64 ((n : Int) / 2 ^ min i 64) 1 = ((n / 2 ^ i % 2 : Nat) : Int) := by
  have h1 : (n : Int) / 2 ^ min i 64 = ((n / 2 ^ i : Nat) : Int) := by
    by_cases h : i ≤ 64
    · rw [Nat.min_eq_left h, Int.natCast_ediv, Int.natCast_pow]; rfl
    · rw [Nat.min_eq_right (by omega)]
      have h2 : 2 ^ 64 ≤ 2 ^ i := Nat.pow_le_pow_right (by omega) (by omega)
      rw [Nat.div_eq_of_lt (show n < 2 ^ i by omega)]
      have : (n : Int) < 2 ^ 64 := by omega
      omega
  have h3 : n / 2 ^ i < 18446744073709551616 := Nat.lt_of_le_of_lt (Nat.div_le_self _ _) hn
  have h4 := u64_and_nat (n / 2 ^ i) 1 h3 (by omega)
  rw [Nat.and_one_is_mod] at h4
  rw [h1]; exact h4
def Mid (n ℓ : Nat) (rows : List (List SH)) : Prop := ∀ (i : Nat) (rs : List SH), rows[i]? = some rs → rs.length = n / 2 ^ i + (if i < ℓ then 1 else 0)
theorem mid_set {n ℓ : Nat} {rows : List (List SH)} {rs rs' : List SH} (h : Mid n ℓ rows) (hr : rows[ℓ]? = some rs) (hl : rs'.length = rs.length + 1) : Mid n (ℓ + 1) (rows.set ℓ rs') := by
  intro i x hx
  have h0 := h ℓ rs hr
  rw [if_neg (Nat.lt_irrefl ℓ)] at h0
  by_cases e : i = ℓ
  · subst e
    rw [List.getElem?_set_self (List.getElem?_eq_some_iff.1 hr).1] at hx
    obtain rfl := Option.some.inj hx
    rw [if_pos (by omega)]; omega
  · rw [List.getElem?_set_ne (by omega)] at hx
    rw [h i x hx]
    by_cases e2 : i < ℓ
    · rw [if_pos e2, if_pos (by omega)]
    · rw [if_neg e2, if_neg (by omega)]
theorem box_rows {w : World} {b : Nat} {s : SH} (hb : w.heap[b]? = some (.cells #[shE s] 27 (0, 0))) : ReadsRow (fun (x : SH) (cs : List Value) => cs = [shE x]) kSH.sz w (some ⟨b, 0, none⟩) 1 [s] := by
  refine ⟨rfl, by decide, fun _ => ⟨_, rfl, fun j p hj => ?_⟩⟩
  have e : j = 0 := by have := (List.getElem?_eq_some_iff.1 hj).1; simp at this; exact this
  subst e
  have e2 : s = p := by simpa using hj
  subst e2
  refine ⟨[shE s], rfl, rfl, fun i u hu => ?_⟩
  have e3 : i = 0 := by have := (List.getElem?_eq_some_iff.1 hu).1; simp at this; exact this
  subst e3
  have e4 : shE s = u := by simpa using hu
  subst e4
  exact blk_cell hb 0
theorem grown_from {W W' w5 : World} {row : Option Nat} (hb : Below W.heap.size W W') (hg : W'.grownBy w5 row) : W.grownBy w5 row :=
  ⟨hg.os.trans hb.os, hg.tape.trans hb.tape, hg.output.trans hb.output, Nat.le_trans hb.size hg.size, fun k hk hne => (hg.block k (Nat.lt_of_lt_of_le hk hb.size) hne).trans (hb.block k hk)⟩
theorem hat_from {W W' : World} {v v5 : Value} (hb : Below W.heap.size W W') (h : v5.ownBlock = v.ownBlock ∨ ∃ b, v5.ownBlock = some b ∧ W'.heap.size ≤ b) : v5.ownBlock = v.ownBlock ∨ ∃ b, v5.ownBlock = some b ∧ W.heap.size ≤ b := by
  rcases h with h | ⟨b, h1, h2⟩
  · exact .inl h
  · exact .inr ⟨b, h1, Nat.le_trans hb.size h2⟩
theorem mid_at {n ℓ : Nat} {rows : List (List SH)} {rs : List SH} (h : Mid n ℓ rows) (hr : rows[ℓ]? = some rs) : rs.length = n / 2 ^ ℓ := by
  have h0 := h ℓ rs hr
  rw [if_neg (Nat.lt_irrefl ℓ)] at h0
  exact h0
theorem room_rs {n ℓ : Nat} {rows : List (List SH)} {rs : List SH} (h : Mid n ℓ rows) (hr : rows[ℓ]? = some rs) (hn : n < 1099511627776) : (rs.length + 1) * 24 ≤ 140737488355328 := by
  have h0 := h ℓ rs hr
  rw [if_neg (Nat.lt_irrefl ℓ)] at h0
  have := Nat.div_le_self n (2 ^ ℓ)
  omega
theorem mid_more {n ℓ : Nat} {rows : List (List SH)} {hs : List SH} (h : Mid n ℓ rows) (hl : rows.length = hs.length) (hb : blen n ≤ hs.length) (he : hs.length ≤ ℓ) (hs' : ℓ ≤ hs.length) : Mid n ℓ (rows ++ [[]]) := by
  intro i rs hi
  by_cases e : i < rows.length
  · rw [List.getElem?_append_left e] at hi
    exact h i rs hi
  · have e2 : i = rows.length := by
      have := (List.getElem?_eq_some_iff.1 hi).1
      rw [List.length_append, List.length_singleton] at this; omega
    subst e2
    rw [List.getElem?_append_right (Nat.le_refl _), Nat.sub_self] at hi
    obtain rfl := Option.some.inj hi
    rw [if_neg (by omega), Nat.div_eq_of_lt (blen_le.1 (by omega))]; rfl
theorem carry {n ℓ : Nat} (h : ∀ i, i < ℓ → n / 2 ^ i % 2 = 1) : (n + 1) / 2 ^ ℓ = n / 2 ^ ℓ + 1 := by
  induction ℓ with
  | zero => rw [Nat.pow_zero, Nat.div_one, Nat.div_one]
  | succ ℓ ih =>
    have h1 := ih (fun i hi => h i (by omega))
    have h2 := h ℓ (by omega)
    rw [Nat.pow_succ, ← Nat.div_div_eq_div_mul, ← Nat.div_div_eq_div_mul, h1]; omega
theorem carry_stop {n ℓ i : Nat} (h : ∀ i, i < ℓ → n / 2 ^ i % 2 = 1) (h0 : ¬ n / 2 ^ ℓ % 2 = 1) (hi : ℓ < i) : (n + 1) / 2 ^ i = n / 2 ^ i := by
  obtain ⟨d, rfl⟩ : ∃ d, i = ℓ + 1 + d := ⟨i - ℓ - 1, by omega⟩
  rw [Nat.pow_add, ← Nat.div_div_eq_div_mul, ← Nat.div_div_eq_div_mul n, Nat.pow_succ, ← Nat.div_div_eq_div_mul, ← Nat.div_div_eq_div_mul n, carry h]
  congr 1; omega
theorem blen_more {n ℓ : Nat} (h : ∀ i, i < ℓ → n / 2 ^ i % 2 = 1) (h0 : ¬ n / 2 ^ ℓ % 2 = 1) (hl : ℓ < blen n) : blen (n + 1) = blen n := by
  have a : blen (n + 1) ≤ blen n := by
    rw [blen_le]
    have h1 := carry_stop h h0 hl
    rw [Nat.div_eq_of_lt (lt_blen n)] at h1
    exact (Nat.div_eq_zero_iff_lt (Nat.two_pow_pos _)).1 h1
  have b : blen n ≤ blen (n + 1) := blen_le.2 (by have := lt_blen (n + 1); omega)
  omega
theorem blen_new {n ℓ : Nat} (h : ∀ i, i < ℓ → n / 2 ^ i % 2 = 1) (hl : ℓ = blen n) : blen (n + 1) = blen n + 1 := by
  have h1 := carry h
  rw [hl, Nat.div_eq_of_lt (lt_blen n)] at h1
  have hp := Nat.two_pow_pos (blen n)
  have h2 := Nat.div_mul_le_self (n + 1) (2 ^ blen n)
  have h3 := lt_blen n
  exact blen_unique (by rw [h1] at h2; omega) (by rw [Nat.pow_succ]; omega)
theorem mid_next {n ℓ : Nat} {rows : List (List SH)} (h : Mid n (ℓ + 1) rows) (ho : ∀ i, i < ℓ → n / 2 ^ i % 2 = 1) (h0 : ¬ n / 2 ^ ℓ % 2 = 1) : Mid (n + 1) 0 rows := by
  intro i rs hi
  rw [h i rs hi, if_neg (show ¬ i < 0 by omega), Nat.add_zero]
  by_cases e : i < ℓ + 1
  · rw [if_pos e, carry (fun j hj => ho j (by omega))]
  · rw [if_neg e, carry_stop ho h0 (by omega)]
def Grew (tb base g : Nat) (hv : Value) (m : Int) (n : Nat) (val : Nat → Nat → List Int) (w w' : World) : Prop :=
  ∃ H hs rows, TreeAt w' tb base g hv m H hs rows val ∧ hs.length = blen n ∧ Mid n 0 rows ∧ Frm base g w w' ∧ Pres5 w w'
set_option maxHeartbeats 16000000 in
set_option maxRecDepth 100000 in
theorem treeAppendImpl.calls (k : Nat) (a0 a1 a2 a3 a4 a5 : Int) (tb base g : Nat) (nI : Int) (n : Nat) (hnI : nI = (n : Int)) (hn : n < 1099511627776) (H : SH) (hs : List SH) (rows : List (List SH)) (val : Nat → Nat → List Int) (A : Option Addr) (nn c : Nat) (w : World) (htb : tb ≤ base) (hbase : base ≤ w.heap.size)
    (T : TreeAt w tb base g (.iface 82 (toyV a0 a1 a2 a3 a4 a5)) nI H hs rows val) (hlen : hs.length = blen n) (hmid : Mid n 0 rows) (hX : Txt tb w (A, nn, c) (val 0 n))
    (hval : ∀ i, (∀ j, j ≤ i → n / 2 ^ j % 2 = 1) → impl_toy_HashChildren.f k a0 a1 a2 a3 a4 a5 (val i (n / 2 ^ i - 1)) (val i (n / 2 ^ i)) = some (val (i + 1) (n / 2 ^ (i + 1)))) :
    Calls Tryd.prog 82 #[.pointer (some ⟨g, 0, none⟩), .slice A nn c] w fun e w' => e = .returned (.tuple #[]) ∧ Grew tb base g (.iface 82 (toyV a0 a1 a2 a3 a4 a5)) (nI + 1) (n + 1) val w w' := by
  have HN := Aside0.mk hnI
  have HNL := Aside0.mk hn
  have HT := Aside0.mk T
  have HL := Aside0.mk hlen
  have HM := Aside0.mk hmid
  have HX := Aside0.mk hX
  have HV := Aside0.mk hval
  have HBS := Aside0.mk hbase
  have HTB := Aside0.mk htb
  clear hnI hn hlen hmid hX hval hbase htb
  have hm := methHC a0 a1 a2 a3 a4 a5
  go_enter Tryd.func82, Tryd.ntmps82
  go_wp2
  try simp only [Act.put, List.setIfInBounds_toArray, List.set_cons_zero, List.set_cons_succ]
  go_loopg [1, 4] (blen n) (fun kq v1 v4 w' => ∃ (ℓ : Nat) (s : SH) (H : SH) (hs : List SH) (rows : List (List SH)), v1 = .slice s.1 s.2.1 s.2.2 ∧ v4 = .int .i64 (ℓ : Int) ∧ Aside0 (ℓ + kq = blen n) ∧ Aside0 (TreeAt w' tb base g (.iface 82 (toyV a0 a1 a2 a3 a4 a5)) nI H hs rows val) ∧ Aside0 (hs.length = blen n) ∧ Aside0 (Mid n ℓ rows) ∧ Aside0 (Txt tb w' s (val ℓ (n / 2 ^ ℓ))) ∧ Aside0 (∀ i, i < ℓ → n / 2 ^ i % 2 = 1) ∧ Aside0 (base ≤ w'.heap.size) ∧ Aside0 (Frm base g w w') ∧ Aside0 (Pres5 w w'))
  case atStart => exact ⟨0, (A, nn, c), H, hs, rows, rfl, rfl, ⟨by omega⟩, HT, HL, HM, ⟨by rw [Nat.pow_zero, Nat.div_one]; exact HX.out⟩, ⟨fun i hi => absurd hi (by omega)⟩, HBS, ⟨Frm.refl _ _ _⟩, ⟨Pres5.refl _⟩⟩
  case round =>
    clear HT HL HM HX HBS T
    obtain ⟨ℓ, ⟨A1, n1, c1⟩, H, hs, rows, rfl, rfl, HI, HT, HL, HM, HX, HO, HBS, HB, HP⟩ := hrel
    dsimp only
    by_cases hbit : n / 2 ^ ℓ % 2 = 1
    case pos =>
      cases gk with
      | zero =>
        have e := HI.out
        rw [Nat.add_zero] at e
        have := lt_blen n
        rw [e, Nat.div_eq_of_lt this] at hbit
        omega
      | succ k1 =>
        obtain ⟨b1, hb1⟩ : ∃ b1, b1 = val ℓ (n / 2 ^ ℓ) := ⟨_, rfl⟩
        rw [← hb1] at HX
        obtain ⟨rfl, hx2, hx3⟩ := HX.out.read
        have hlt : ℓ < hs.length := by
          rw [HL.out]
          apply Nat.lt_of_not_le
          intro h
          rw [Nat.div_eq_of_lt (blen_le.1 h)] at hbit
          omega
        have hT := HT.out
        obtain ⟨gH, cH, rfl, hgH⟩ := kSH_form hT.outer (by omega)
        obtain ⟨t0, t1, t2⟩ := hT.c0
        obtain ⟨h, hh⟩ : ∃ h, hs[ℓ]? = some h := ⟨_, List.getElem?_eq_getElem hlt⟩
        obtain ⟨x1, f1⟩ := kSH_cell hT.outer hh
        obtain ⟨rs, hrs, hRow⟩ := hT.row ℓ h hh
        have hrl := HM.out ℓ rs hrs
        rw [if_neg (Nat.lt_irrefl ℓ), Nat.add_zero] at hrl
        obtain ⟨gr, cr, rfl, hgr⟩ := kSH_form hRow (by omega)
        replace t2 : World.cell? _ _ = some (.slice (some ⟨gH, 0, none⟩) hs.length cH) := t2
        replace x1 : World.cell? _ _ = some (.slice (some ⟨gr, 0, none⟩) rs.length cr) := x1
        have b9 : (Go.bits .and .u64 (nI / 2 ^ min ℓ 64) 1 == 1) = true := by
          rw [HN.out, bit_is n ℓ (by have := HNL.out; omega), hbit]; rfl
        have hL := HL.out
        have hNL := HNL.out
        have hlb : blen n ≤ 40 := blen_le.2 hNL
        have c0 : decide ((ℓ : Int) < 0) = false := decide_eq_false (by omega)
        have d0 : 0 ≤ (ℓ : Int) := by omega
        have d1 : (ℓ : Int) < (hs.length : Int) := by omega
        have c2 : decide ((ℓ : Int) < (hs.length : Int)) = true := decide_eq_true d1
        have c3 : decide (ℓ < hs.length) = true := decide_eq_true hlt
        have HROW := Aside0.mk hRow
        have HHH := Aside0.mk hh
        have HRS := Aside0.mk hrs
        have HRL := Aside0.mk hrl
        have HBIT := Aside0.mk hbit
        have HX2 := Aside0.mk hx2
        have HX3 := Aside0.mk hx3
        have HB1 := Aside0.mk hb1
        obtain ⟨m, hm2⟩ : ∃ m, rs.length = m + 1 := ⟨rs.length - 1, by omega⟩
        obtain ⟨⟨A6, n6, c6⟩, hy⟩ : ∃ y, rs[m]? = some y := ⟨_, List.getElem?_eq_getElem (by omega)⟩
        have hty := hT.txt ℓ m rs _ hrs hy
        have em : m = n / 2 ^ ℓ - 1 := by omega
        have hcall := HV.out ℓ (fun j hj => by
          rcases Nat.lt_or_eq_of_le hj with h | h
          · exact HO.out j h
          · subst h; exact hbit)
        rw [← em, ← hb1] at hcall
        obtain ⟨b6, hb6⟩ : ∃ b6, b6 = val ℓ m := ⟨_, rfl⟩
        rw [← hb6] at hty hcall
        obtain ⟨rfl, hy2, hy3⟩ := hty.read
        have HY := Aside0.mk hy
        have HTY := Aside0.mk hty
        have HM2 := Aside0.mk hm2
        have HC := Aside0.mk hcall
        clear hb1 hb6 hy hty hy2 hy3 hm2 em hcall
        clear hT hRow hh hrs hrl hbit hx2 hx3 hgH hgr hL hNL hlb hlt
        go_wp2_with (first
          | ((with_reducible refine gate_builtin (b := .append) (xs := #[.tmp 22, .tmp 24]) rfl ?_); at_builtin
             refine Kd.R_append kSH (w0 := wr) base rfl (.tmp 22) (.tmp 24) 25 27 (.slice none 0 0) 24 rfl Tryd.underlying25 info27 rfl (by decide) (by omega) (.slice (some ⟨gr, 0, none⟩) rs.length cr) rs (A1, b1.length, c1) [.slice A1 b1.length c1] (fun _ => True) (fun _ => False) rfl rfl ?aP (fun _ h => h.elim) ?aF ?aO ?aB ?aS ?aL ?_
             (case aP => rfl)
             (case aF => exact fun _ _ => trivial)
             (case aO => exact HROW.out)
             (case aB => exact Below.refl _ _)
             (case aS => exact HBS.out)
             (case aL => have := HRL.out; have := Nat.div_le_self n (2 ^ ℓ); have := HNL.out; omega)
             intro v1 w1 hR1 hB1 hg1 hat1
             obtain ⟨g5, c5, n5, hv, hn5⟩ : ∃ g5 c5 n5, v1 = .slice (some ⟨g5, 0, none⟩) n5 c5 ∧ n5 = m + 2 := by
               obtain ⟨a, b, h, _⟩ := Kd.R_form hR1 (by simp)
               exact ⟨a, b, _, h, by have := HM2.out; simp only [List.length_append, List.length_singleton]; omega⟩
             subst hv
             have HN5 := Aside0.mk hn5
             have HR1 := Aside0.mk hR1
             have HBB1 := Aside0.mk (HB.out.trans (Frm.of (g := g) hB1))
             have HG1 := Aside0.mk hg1
             have HAT1 := Aside0.mk hat1
             clear hR1 hB1 hg1 hat1 hn5))
        clear t0 t1 t2 x1 f1
        have hn5 := HN5.out
        obtain ⟨z1, z2, z3⟩ := HT.out.grown1 HHH.out HG1.out
        have s0 : World.cell? _ ⟨g, 0, none⟩ = some (.iface 82 (.agg #[.int .i64 a0, .int .i64 a1, .int .i64 a2, .int .u64 a3, .int .u64 a4, .int .u64 a5])) := blk_cell z1 0
        have s2 : World.cell? _ ⟨g, 2, none⟩ = some (.slice (some ⟨gH, 0, none⟩) hs.length cH) := blk_cell z1 2
        obtain ⟨s3, s4⟩ := kSH_cell z2 HHH.out
        replace s3 : World.cell? _ _ = some (.slice (some ⟨gr, 0, none⟩) rs.length cr) := s3
        obtain ⟨s5, s6⟩ := kSH_cell HR1.out (show (rs ++ [(A1, b1.length, c1)])[m]? = some (A6, b6.length, c6) by rw [List.getElem?_append_left (by have := HM2.out; omega)]; exact HY.out)
        replace s5 : World.cell? _ _ = some (.slice A6 b6.length c6) := s5
        have hmb : m ≤ 1099511627776 := by have := HM2.out; have := HRL.out; have := Nat.div_le_self n (2 ^ ℓ); have := HNL.out; omega
        have hn5' : IntKind.i64.wrap ((n5 : Int) - 2) = (m : Int) := by
          rw [HN5.out, show (((m + 2 : Nat) : Int) - 2) = (m : Int) by omega]
          exact IntWalk.i64_in _ (by omega)
        have m0 : 0 ≤ (m : Int) := by omega
        have m1 : (m : Int) < (n5 : Int) := by omega
        have m2 : decide ((m : Int) < (n5 : Int)) = true := decide_eq_true m1
        have m3 : decide (m < n5) = true := decide_eq_true (by omega)
        have HZ2 := Aside0.mk z2
        have HZ3 := Aside0.mk z3
        clear z1 z2 z3 hn5 hmb
        have hy2 := HTY.out.read.2.1
        have hx2 := HX.out.read.2.1
        have HY1 := Aside0.mk (HTY.out.pres HZ3.out).read.2.2
        have HX1 := Aside0.mk (HX.out.pres HZ3.out).read.2.2
        go_region_with (go_at_call 50; refine (impl_toy_HashChildren.calls k a0 a1 a2 a3 a4 a5 A6 c6 b6 A1 c1 b1 (val (ℓ + 1) (n / 2 ^ (ℓ + 1))) _ ?s1 hy2 ?s3 hx2 HC.out).mono ?_; (case s1 => repeat (first | exact HY1.out | (refine Kd.C_drewN ?_ _) | (refine Kd.C_drew ?_))); (case s3 => repeat (first | exact HX1.out | (refine Kd.C_drewN ?_ _) | (refine Kd.C_drew ?_))); rintro e w4 ⟨v4, rfl, hR4, hb4⟩; have HR4 := Aside0.mk hR4; have HB4 := Aside0.mk (show Below w1.heap.size w1 w4 from Below.trans (by repeat (first | exact Below.refl _ _ | apply Below.drew | apply pw_below_drewN)) hb4); clear hR4 hb4)
        all_goals
          clear s0 s2 s3 s4 s5 s6 HY1 HX1 hy2 hx2 hn5' m0 m1 m2 m3
          obtain ⟨⟨A4, n4, c4⟩, rfl⟩ := kSH_val' HR4.out
          obtain ⟨hP1, hP2⟩ := HT.out.put (s := (A1, b1.length, c1)) (h1 := (some ⟨g5, 0, none⟩, n5, c5)) rfl HHH.out HRS.out HR1.out HG1.out HAT1.out HB4.out (HX.out.at (by rw [HRL.out, HB1.out]))
          have HTn := Aside0.mk hP1
          have HPn := Aside0.mk hP2
          have q2 : World.cell? _ ⟨g, 2, none⟩ = some (.slice (some ⟨gH, 0, none⟩) hs.length cH) := (HB4.out.cell (World.block_lt_of_cell? _ _ (blk_cell (HT.out.grown1 HHH.out HG1.out).1 2))).trans (blk_cell (HT.out.grown1 HHH.out HG1.out).1 2)
          obtain ⟨q3, q4⟩ := kSH_cell (Kd.R_below HZ2.out HB4.out) HHH.out
          clear hP1 hP2
          go_step
          simp [Act.put]
          go_step
          go_wp2
          have hbs1 : base ≤ w1.heap.size := Nat.le_trans HBS.out HG1.out.size
          have hb5 : Frm base g w w4 := HBB1.out.trans (Frm.of (HB4.out.mono hbs1))
          have hgH : base ≤ gH := Kd.R_base HZ2.out gH rfl
          obtain ⟨cc, hcc⟩ := Kd.R_typed (Kd.R_below HZ2.out HB4.out) gH rfl
          have hnx := nxtL (i := ℓ) (by have := HI.out; have := (blen_le (m := 40)).2 HNL.out; omega)
          go_roundg k1
          case measure => omega
          case rel => exact ⟨ℓ + 1, (A4, n4, c4), _, _, _, rfl, by first | rfl | (rw [hnx]) | (congr 1), ⟨by have := HI.out; omega⟩, HTn, ⟨by rw [List.length_set]; exact HL.out⟩, ⟨mid_set HM.out HRS.out (by rw [List.length_append, List.length_singleton])⟩, ⟨(Txt.of_R HR4.out (Nat.le_trans HTB.out hbs1)).pres (Pres5.set hcc (by decide) ℓ _)⟩, ⟨fun i hi => by
            by_cases e : i = ℓ
            · subst e; exact HBIT.out
            · exact HO.out i (by omega)⟩, ⟨by rw [World.size_setCell]; exact Nat.le_trans HBS.out (Nat.le_trans (HG1.out.size) HB4.out.size)⟩, ⟨hb5.set (.inl hgH) _ _⟩, ⟨HP.out.trans HPn.out⟩⟩
    case neg =>
      have b9 : (Go.bits .and .u64 (nI / 2 ^ min ℓ 64) 1 == 1) = false := by
        rw [HN.out, bit_is n ℓ (by have := HNL.out; omega)]
        have := Nat.mod_two_eq_zero_or_one (n / 2 ^ ℓ)
        rw [show n / 2 ^ ℓ % 2 = 0 by omega]; rfl
      obtain ⟨t0, t1, t2⟩ := HT.out.c0
      obtain ⟨AH, nH, cH⟩ := H
      have enH := (Kd.R_reads' HT.out.outer).1
      have enH : nH = hs.length := enH
      subst enH
      replace t2 : World.cell? _ _ = some (.slice AH hs.length cH) := t2
      have hle : ℓ ≤ hs.length := by have := HI.out; have := HL.out; omega
      have hlb : ℓ ≤ 40 := by have := HI.out; have := (blen_le (m := 40)).2 HNL.out; omega
      have d0 : 0 ≤ (ℓ : Int) := by omega
      have e1 : decide ((hs.length : Int) < (ℓ : Int)) = false := decide_eq_false (by omega)
      have e1' : decide (hs.length < ℓ) = false := decide_eq_false (by omega)
      have HBIT := Aside0.mk hbit
      clear hbit hle hlb
      obtain ⟨rfl, hx2, hx3⟩ := HX.out.read
      clear hx2 hx3
      by_cases hlt : ℓ < hs.length
      case' pos =>
        have e2 : ((ℓ : Int) == (hs.length : Int)) = false := beq_eq_false_iff_ne.mpr (by omega)
        have e3 : (ℓ == hs.length) = false := beq_eq_false_iff_ne.mpr (by omega)
        have HLT := Aside0.mk hlt
        clear hlt
        go_wp2
        have HX2 := HX
        obtain ⟨W2, hW2⟩ : ∃ W2, W2 = wr := ⟨_, rfl⟩
        subst hW2
        have HT2 := HT
        have HI2 := HLT
        have HL2 := Aside0.mk (show hs.length = blen (n + 1) by rw [HL.out]; exact (blen_more HO.out HBIT.out (by have := HLT.out; have := HL.out; omega)).symm)
        have HM2 := HM
        have HB2 := HB
        have HBS2 := HBS
        have HP2 := HP
        obtain ⟨gH, cH2, eH, hgH⟩ := kSH_form HT2.out.outer (by have := HLT.out; omega)
        simp only [Prod.mk.injEq] at eH
        obtain ⟨rfl, -, rfl⟩ := eH
        obtain ⟨t0, t1, t2⟩ := HT2.out.c0
        replace t2 : World.cell? _ ⟨g, 2, none⟩ = some (.slice (some ⟨gH, 0, none⟩) hs.length cH) := t2
        obtain ⟨⟨Ah, nh, ch⟩, hh⟩ : ∃ h, hs[ℓ]? = some h := ⟨_, List.getElem?_eq_getElem HI2.out⟩
        obtain ⟨x1, f1⟩ := kSH_cell HT2.out.outer hh
        obtain ⟨rs, hrs, hRow⟩ := HT2.out.row ℓ _ hh
        have enh : nh = rs.length := (Kd.R_reads' hRow).1
        subst enh
        replace x1 : World.cell? _ _ = some (.slice Ah rs.length ch) := x1
        have d1 : (ℓ : Int) < (hs.length : Int) := by have := HI2.out; omega
        have c2 : decide ((ℓ : Int) < (hs.length : Int)) = true := decide_eq_true d1
        have c3 : decide (ℓ < hs.length) = true := decide_eq_true HI2.out
        have HRS := Aside0.mk hrs
        have HHH := Aside0.mk hh
        have HROW := Aside0.mk hRow
        clear hrs hh hRow hgH
      case' neg =>
        have e0 : ℓ = hs.length := by have := HI.out; have := HL.out; omega
        have e2 : ((ℓ : Int) == (hs.length : Int)) = true := beq_iff_eq.mpr (by omega)
        have e3 : (ℓ == hs.length) = true := beq_iff_eq.mpr e0
        have HE0 := Aside0.mk e0
        clear hlt e0
        go_wp2_with (first
          | ((with_reducible refine gate_builtin (b := .append) (xs := #[.tmp 66, .tmp 67]) rfl ?_); at_builtin
             refine Kd.R_append kSH (w0 := wr) base rfl (.tmp 66) (.tmp 67) 135 25 (.slice none 0 0) 24 rfl Tryd.underlying135 info25' rfl (by decide) (by omega) (.slice AH hs.length cH) hs (none, 0, 0) [.slice none 0 0] (fun _ => True) (fun _ => False) rfl rfl ?aP (fun _ h => h.elim) ?aF ?aO ?aB ?aS ?aL ?_
             (case aP => rfl)
             (case aF => exact fun _ _ => trivial)
             (case aO => exact HT.out.outer)
             (case aB => exact Below.refl _ _)
             (case aS => exact HBS.out)
             (case aL => have := HI.out; have := HL.out; have := (blen_le (m := 40)).2 HNL.out; omega)
             intro v1 w1 hR1 hB1 hg1 hat1
             obtain ⟨⟨A5, n5, c5⟩, hv⟩ := kSH_val hR1
             obtain rfl : v1 = .slice A5 n5 c5 := hv
             have s2 : World.cell? _ ⟨g, 2, none⟩ = some (.slice AH hs.length cH) := blk_cell (HT.out.grownH hg1) 2
             have s3 : World.frozen? _ ⟨g, 2, none⟩ = false := blk_frozen (HT.out.grownH hg1) 2
             have HR1 := Aside0.mk hR1
             have HBB1 := Aside0.mk (HB.out.trans (Frm.of (g := g) hB1))
             have HG1 := Aside0.mk hg1
             clear hR1 hB1 hg1 hat1))
        clear s2 s3 t0 t1
        have HT2 := Aside0.mk (HT.out.more (H1 := (A5, n5, c5)) HR1.out HG1.out).1
        have hp0 := (HT.out.more (H1 := (A5, n5, c5)) HR1.out HG1.out).2
        have HI2 := Aside0.mk (show ℓ < (hs ++ [((none, 0, 0) : SH)]).length by rw [List.length_append, List.length_singleton]; have := HE0.out; omega)
        have HL2 := Aside0.mk (show (hs ++ [((none, 0, 0) : SH)]).length = blen (n + 1) by rw [List.length_append, List.length_singleton]; rw [HL.out]; exact (blen_new HO.out (by have := HE0.out; have := HL.out; omega)).symm)
        have HM2 := Aside0.mk (mid_more HM.out HT.out.len (by rw [HL.out]; exact Nat.le_refl _) (by have := HE0.out; omega) (by have := HE0.out; omega))
        have HB2 := Aside0.mk (HBB1.out.set (q := g) (.inr rfl) 2 (.slice A5 n5 c5))
        have HBS2 := Aside0.mk (show base ≤ (World.setCell _ ⟨g, 2, none⟩ (.slice A5 n5 c5)).heap.size from by rw [World.size_setCell]; exact Nat.le_trans HBS.out HG1.out.size)
        have HP2 := Aside0.mk (HP.out.trans hp0)
        have HX2 := Aside0.mk (HX.out.pres hp0)
        obtain ⟨gH, cH2, eH, hgH⟩ := kSH_form HT2.out.outer (Nat.lt_of_le_of_lt (Nat.zero_le _) HI2.out)
        simp only [Prod.mk.injEq] at eH
        obtain ⟨rfl, rfl, rfl⟩ := eH
        generalize hhs : hs ++ [((none, 0, 0) : SH)] = hs2 at HT2 HI2 HL2 HB2 HBS2 HP2 HX2 ⊢
        generalize World.setCell _ _ _ = W2 at HT2 HB2 HBS2 HP2 HX2 ⊢
        clear hp0 hhs HR1
        obtain ⟨t0, t1, t2⟩ := HT2.out.c0
        replace t2 : World.cell? _ ⟨g, 2, none⟩ = some (.slice (some ⟨gH, 0, none⟩) hs2.length c5) := t2
        obtain ⟨⟨Ah, nh, ch⟩, hh⟩ : ∃ h, hs2[ℓ]? = some h := ⟨_, List.getElem?_eq_getElem HI2.out⟩
        obtain ⟨x1, f1⟩ := kSH_cell HT2.out.outer hh
        obtain ⟨rs, hrs, hRow⟩ := HT2.out.row ℓ _ hh
        have enh : nh = rs.length := (Kd.R_reads' hRow).1
        subst enh
        replace x1 : World.cell? _ _ = some (.slice Ah rs.length ch) := x1
        have d1 : (ℓ : Int) < (hs2.length : Int) := by have := HI2.out; omega
        have c2 : decide ((ℓ : Int) < (hs2.length : Int)) = true := decide_eq_true d1
        have c3 : decide (ℓ < hs2.length) = true := decide_eq_true HI2.out
        have HRS := Aside0.mk hrs
        have HHH := Aside0.mk hh
        have HROW := Aside0.mk hRow
        clear hrs hh hRow hgH
      all_goals
        have x1o := ((below_alloc (Below.refl W2.heap.size W2) (Obj.cells #[Value.slice A1 (val ℓ (n / 2 ^ ℓ)).length c1] 27)).cell (p := ⟨gH, ℓ, none⟩) (World.block_lt_of_cell? W2 _ x1)).trans x1
        have t2o := ((below_alloc (Below.refl W2.heap.size W2) (Obj.cells #[Value.slice A1 (val ℓ (n / 2 ^ ℓ)).length c1] 27)).cell (p := ⟨g, 2, none⟩) (World.block_lt_of_cell? W2 _ t2)).trans t2
        go_region_law (first
          | (refine Kd.R_append_rows_step kSH (Rr := fun (x : SH) cs => cs = [shE x]) (w0 := W2) base ?hw (.tmp 82) (.tmp 84) 25 27 (.slice none 0 0) 24 rfl Tryd.underlying25 info27 rfl (by decide) (by omega) (.slice Ah rs.length ch) rs [(A1, (val ℓ (n / 2 ^ ℓ)).length, c1)] (some ⟨W2.heap.size, 0, none⟩) 1 1 (fun _ => True) (fun _ => False) rfl rfl ?aO ?aR (fun _ _ h => h) (fun _ h => h.elim) ?aF ?aB ?aS ?aL ?_
             (case hw => simp [Region.wanted])
             (case aF => exact fun _ _ => trivial)
             (case aO => exact Kd.R_below HROW.out (by repeat (first | exact Below.refl _ _ | apply Below.drew | apply pw_below_drewN | exact below_alloc (Below.refl _ _) _)))
             (case aR => exact box_rows (by (with_reducible repeat (first | refine blk_drewN ?_ _ | refine blk_drew ?_)); exact blk_new _ _))
             (case aB => exact (Below.mono (B := W2.heap.size) (by repeat (first | exact Below.refl _ _ | apply Below.drew | apply pw_below_drewN | exact below_alloc (Below.refl _ _) _)) HBS2.out))
             (case aS => exact Nat.le_trans HBS2.out (Below.size (B := W2.heap.size) (by repeat (first | exact Below.refl _ _ | apply Below.drew | apply pw_below_drewN | exact below_alloc (Below.refl _ _) _))))
             (case aL => exact room_rs HM2.out HRS.out HNL.out)
             intro v5 w5 hR5 hB5 hg5 hat5
             obtain ⟨⟨A7, n7, c7⟩, hv⟩ := kSH_val hR5
             obtain rfl : v5 = .slice A7 n7 c7 := hv
             have HR5 := Aside0.mk hR5
             have HB5 := Aside0.mk (HB2.out.trans (Frm.of (g := g) hB5))
             have HG5 := Aside0.mk (grown_from (W := W2) (by repeat (first | exact Below.refl _ _ | apply Below.drew | apply pw_below_drewN | exact below_alloc (Below.refl _ _) _)) hg5)
             have HAT5 := Aside0.mk (hat_from (W := W2) (by repeat (first | exact Below.refl _ _ | apply Below.drew | apply pw_below_drewN | exact below_alloc (Below.refl _ _) _)) hat5)
             obtain ⟨y1, y2⟩ := kSH_cell (HT2.out.grown1 HHH.out HG5.out).2.1 HHH.out
             replace y1 : World.cell? _ _ = some (.slice Ah rs.length ch) := y1
             have y3 := ((blk_cell (HT2.out.grown1 HHH.out HG5.out).1 2).trans (blk_cell HT2.out.cell 2).symm).trans t2
             clear hR5 hB5 hg5 hat5))
      all_goals
        clear t0 t1 t2 x1 f1 y1 y2 y3 x1o t2o
        have hP := HT2.out.put (s := (A1, (val ℓ (n / 2 ^ ℓ)).length, c1)) (h1 := (A7, n7, c7)) rfl HHH.out HRS.out HR5.out HG5.out HAT5.out (Below.refl w5.heap.size w5) (HX2.out.at (by rw [mid_at HM2.out HRS.out]))
        have HT3 := Aside0.mk hP.1
        have HP3 := Aside0.mk (HP2.out.trans hP.2)
        have hgH : base ≤ gH := Kd.R_base HT2.out.outer gH rfl
        have HB3 := Aside0.mk (HB5.out.set (q := gH) (.inl hgH) ℓ (.slice A7 n7 c7))
        clear hP hgH
        have HT3 : Aside0 (TreeAt (w5.setCell ⟨gH, ℓ, none⟩ (.slice A7 n7 c7)) _ _ _ _ _ _ _ _ _) := HT3
        have HP3 : Aside0 (Pres5 w (w5.setCell ⟨gH, ℓ, none⟩ (.slice A7 n7 c7))) := HP3
        go_step
        try simp [Act.put]
        go_step
        generalize w5.setCell ⟨gH, ℓ, none⟩ (.slice A7 n7 c7) = W6 at HT3 HP3 HB3 ⊢
        have t1 := HT3.out.c0.2.1
        have t1f := blk_frozen HT3.out.cell 1
        have hn0 : 0 ≤ nI := by have := HN.out; omega
        have hn1 : nI ≤ 1099511627776 := by have := HN.out; have := HNL.out; omega
        go_wp2
        go_end0
        refine ⟨rfl, _, _, _, (HT3.out.size (nI + 1)).1, ?_, mid_next (mid_set HM2.out HRS.out (by rw [List.length_append, List.length_singleton])) HO.out HBIT.out, HB3.out.set (q := g) (.inr rfl) 1 _, HP3.out.trans (HT3.out.size (nI + 1)).2⟩
        rw [List.length_set]; exact HL2.out
end Go.Proofs.YtielnphmcaecdaaDoor.PAll
namespace Go.Proofs.YtielnphmcaecdaaDoor.PAll
open Go.RowKit Go.Proofs.YtielnphmcaecdaaDoor.Mth Go.Proofs.YtielnphmcaecdaaDoorW.PrintWords Go.Proofs.YtielnphmcaecdaaDoorW.PrintLast Go.Proofs.YtielnphmcaecdaaDoorW.PrintMore
set_option linter.unusedVariables false
def Looks (ids : List S99) (rows : List (List SH)) (ss : List SH) : Prop :=
  ss.length = ids.length ∧ ∀ (i : Nat) (id : S99), ids[i]? = some id → ∃ (a b : Nat) (rs : List SH) (s : SH), id = ⟨(a : Int), (b : Int)⟩ ∧ rows[a]? = some rs ∧ rs[b]? = some s ∧ ss[i]? = some s
theorem rd99 {ids : List S99} {i : Nat} {id : S99} (h : ids[i]? = some id) : rd_T99 ids (i : Int) = id := by
  unfold rd_T99
  rw [Int.toNat_natCast, List.getD_eq_getElem?_getD, h]; rfl
theorem kSH_put {e : Nat} {W : World} {base g n cap : Nat} {ok : Nat → Prop} {xs : List SH} {i : Nat} (h : kSH.R e W base ok (.slice (some ⟨g, 0, none⟩) n cap) xs) (x : SH) : kSH.R e (W.setCell ⟨g, i, none⟩ (shE x)) base ok (.slice (some ⟨g, 0, none⟩) n cap) (xs.set i x) := by
  have := Kd.R_putn (enc := shE) h (i : Int) x
  rw [Int.toNat_natCast] at this
  exact this
set_option maxHeartbeats 16000000 in
set_option maxRecDepth 100000 in
theorem treeGetNodes.calls (tb base g : Nat) (hv : Value) (nI : Int) (H : SH) (hs : List SH) (rows : List (List SH)) (val : Nat → Nat → List Int) (w : World) (T : TreeAt w tb base g hv nI H hs rows val) (A : Option Addr) (c : Nat) (ids : List S99) (hr : Kd.C k99 w A ids.length ids) (hc : ids.length ≤ c) (hl : ids.length ≤ 100000) (ss : List SH) (look : Looks ids rows ss) :
    Calls Tryd.prog 83 #[.pointer (some ⟨g, 0, none⟩), .slice A ids.length c] w fun e w' => ∃ v, e = .returned v ∧ Rw w' w.heap.size v ss ∧ Below w.heap.size w w' := by
  have HT := Aside0.mk T
  have HR := Aside0.mk hr
  have HC := Aside0.mk hc
  have HLL := Aside0.mk hl
  have HK := Aside0.mk look
  have hl0 : (ids.length : Int) ≤ 100000 := by omega
  clear T hr hc hl look
  go_enter Tryd.func83, Tryd.ntmps83
  go_wp2_with (first | ((with_reducible refine gate_dst (N := 10) rfl ?_); refine Kd.R_make kSH (w0 := w) w.heap.size 27 rfl (N := 10) rfl 25 _ _ rfl (ids.length : Int) rfl rfl Tryd.underlying25 (.slice none 0 0) 24 info27 rfl (by decide) (by omega) (none, 0, 0) (ok := fun _ => True) (okp := fun _ => True) rfl (fun _ hk => hk) trivial (by omega) (by omega) (Below.refl _ _) (Nat.le_refl _) ?_; intro v1 w1 ho1 hb1 hg1 hn1; have HO1 := Aside0.mk ho1; have HB1 := Aside0.mk hb1; clear ho1 hb1 hg1 hn1; obtain ⟨A1, c1, e1⟩ := Kd.R_slice HO1.out; subst e1))
  try simp only [Act.put, List.setIfInBounds_toArray, List.set_cons_zero, List.set_cons_succ]
  obtain ⟨zs, hzs⟩ : ∃ zs : List SH, zs = List.replicate (ids.length : Int).toNat ((none, 0, 0) : SH) := ⟨_, rfl⟩
  have hzl : zs.length = ids.length := by rw [hzs, List.length_replicate, Int.toNat_natCast]
  have HZ : Aside0 (kSH.R 27 w1 w.heap.size (fun _ => True) (.slice A1 ids.length c1) zs) := ⟨by rw [hzs]; have := HO1.out; rw [List.length_replicate, Int.toNat_natCast] at this; exact this⟩
  have HZL := Aside0.mk hzl
  clear HO1 hzs hzl
  go_loopg [13] ids.length (fun kq v13 w' => ∃ (i : Nat) (xs : List SH), v13 = .int .i64 (i : Int) ∧ Aside0 (i + kq = ids.length) ∧ Aside0 (xs.length = ids.length) ∧ Aside0 (∀ j, j < i → xs[j]? = ss[j]?) ∧ Aside0 (kSH.R 27 w' w.heap.size (fun _ => True) (.slice A1 ids.length c1) xs) ∧ Aside0 (Below w.heap.size w w'))
  case atStart => exact ⟨0, zs, rfl, ⟨by omega⟩, HZL, ⟨fun j hj => absurd hj (by omega)⟩, HZ, HB1⟩
  case round =>
    clear HZ HZL HB1
    obtain ⟨i, xs, rfl, HI, HXL, HX, HO, HB⟩ := hrel
    cases gk with
    | zero =>
      have ei : i = ids.length := by have := HI.out; omega
      subst ei
      have exs : xs = ss := List.ext_getElem? (fun j => by
        by_cases h : j < ids.length
        · exact HX.out j h
        · rw [List.getElem?_eq_none (by have := HXL.out; omega), List.getElem?_eq_none (by have := HK.out.1; omega)])
      subst exs
      go_wp2
      go_ret
      exact ⟨_, rfl, HO.out, HB.out⟩
    | succ k1 =>
      have hi : i < ids.length := by have := HI.out; omega
      obtain ⟨id, hid⟩ : ∃ id, ids[i]? = some id := ⟨_, List.getElem?_eq_getElem hi⟩
      obtain ⟨a, b, rs, s, rfl, hra, hrb, hsi⟩ := HK.out.2 i id hid
      obtain ⟨ad, rfl, x1, x2⟩ := at_T99 HR.out (i : Int) (by omega) (by omega)
      rw [rd99 hid, Int.toNat_natCast] at x1 x2
      replace x1 : World.cell? _ (ad.add (i * 2)) = some (.int .u64 (a : Int)) := x1
      replace x2 : World.cell? _ ⟨(ad.add (i * 2)).block, (ad.add (i * 2)).off + 1, none⟩ = some (.int .u64 (b : Int)) := x2
      replace x1 := (HB.out.cell (World.block_lt_of_cell? w _ x1)).trans x1
      replace x2 := (HB.out.cell (World.block_lt_of_cell? w _ x2)).trans x2
      have d0 : 0 ≤ (i : Int) := by omega
      have d1 : (i : Int) < (ids.length : Int) := by omega
      have d2 : decide ((i : Int) < (ids.length : Int)) = true := decide_eq_true d1
      have d3 : decide (i < ids.length) = true := decide_eq_true hi
      have HID := Aside0.mk hid
      have HRA := Aside0.mk hra
      have HRB := Aside0.mk hrb
      have HSI := Aside0.mk hsi
      clear hid hra hrb hsi hi
      go_wp2
      obtain ⟨Wb, hWb⟩ : ∃ Wb, wr.alloc (Obj.cells #[Value.int IntKind.u64 (a : Int), Value.int IntKind.u64 (b : Int)] 99) = Wb := ⟨_, rfl⟩
      rw [hWb]
      have bk : Wb.heap[wr.heap.size]? = some (.cells #[Value.int IntKind.u64 (a : Int), Value.int IntKind.u64 (b : Int)] 99 (0, 0)) := by rw [← hWb]; exact blk_new wr _
      have HBb := Aside0.mk (show Below w.heap.size w Wb by rw [← hWb]; exact below_alloc HB.out _)
      have HOb := Aside0.mk (show kSH.R 27 Wb w.heap.size (fun _ => True) (.slice A1 ids.length c1) xs by rw [← hWb]; exact Kd.R_alloc HO.out _)
      clear hWb HO HB x1 x2
      generalize wr.heap.size = q at bk ⊢
      have p0 : Wb.cell? ⟨q, 0, none⟩ = some (.int .u64 (a : Int)) := blk_cell bk 0
      have p1 : Wb.cell? ⟨q, 1, none⟩ = some (.int .u64 (b : Int)) := blk_cell bk 1
      have hT := HT.out.below HBb.out
      have hal : a < hs.length := by rw [← hT.len]; exact (List.getElem?_eq_some_iff.1 HRA.out).1
      obtain ⟨h, hh⟩ : ∃ h, hs[a]? = some h := ⟨_, List.getElem?_eq_getElem hal⟩
      obtain ⟨rs', hrs', hRow⟩ := hT.row a h hh
      obtain rfl := Option.some.inj (hrs'.symm.trans HRA.out)
      have hbl : b < rs'.length := (List.getElem?_eq_some_iff.1 HRB.out).1
      obtain ⟨gH, cH, eH, _⟩ := kSH_form hT.outer (by omega)
      obtain ⟨gr, cr, rfl, _⟩ := kSH_form hRow (by omega)
      have p2 : Wb.cell? ⟨g, 2, none⟩ = some (.slice (some ⟨gH, 0, none⟩) hs.length cH) := by have := hT.c0.2.2; rw [eH] at this; exact this
      have p3 : Wb.cell? ⟨gH, a, none⟩ = some (.slice (some ⟨gr, 0, none⟩) rs'.length cr) := by have := hT.outer; rw [eH] at this; exact (kSH_cell this hh).1
      obtain ⟨As, ns, cs⟩ := s
      have p4 : Wb.cell? ⟨gr, b, none⟩ = some (.slice As ns cs) := (kSH_cell hRow HRB.out).1
      obtain ⟨gA, cA, eA, hgA⟩ := kSH_form (s := (A1, ids.length, c1)) HOb.out (by have := HXL.out; omega)
      simp only [Prod.mk.injEq] at eA
      obtain ⟨rfl, -, rfl⟩ := eA
      obtain ⟨x, hx⟩ : ∃ x, xs[i]? = some x := ⟨_, List.getElem?_eq_getElem (by have := HXL.out; omega)⟩
      obtain ⟨p5, p6⟩ := kSH_cell HOb.out hx
      have e0 : 0 ≤ (a : Int) := by omega
      have e1 : (a : Int) < (hs.length : Int) := by omega
      have e2 : decide ((a : Int) < (hs.length : Int)) = true := decide_eq_true e1
      have e3 : decide (a < hs.length) = true := decide_eq_true hal
      have e4 : 0 ≤ (b : Int) := by omega
      have e5 : (b : Int) < (rs'.length : Int) := by omega
      have e6 : decide ((b : Int) < (rs'.length : Int)) = true := decide_eq_true e5
      have e7 : decide (b < rs'.length) = true := decide_eq_true hbl
      have HGA := Aside0.mk hgA
      clear hT hal hh hrs' hRow hbl eH hgA hx bk
      go_region
      all_goals go_wp2
      go_roundg k1
      case measure => omega
      case rel => exact ⟨i + 1, xs.set i (As, ns, cs), by first | rfl | (congr 1), ⟨by have := HI.out; omega⟩, ⟨by rw [List.length_set]; exact HXL.out⟩, ⟨fun j hj => by
        by_cases e : j = i
        · subst e
          rw [List.getElem?_set_self (by have := HXL.out; have := HI.out; omega)]; exact HSI.out.symm
        · rw [List.getElem?_set_ne (by omega)]; exact HX.out j (by omega)⟩, ⟨Kd.R_drew (kSH_put HOb.out (As, ns, cs))⟩, ⟨(HBb.out.setCell (p := ⟨gA, i, none⟩) HGA.out _).drew⟩⟩
def foldR_ (F : List Int → List Int → Option (List Int)) : List (List Int) → Option (List Int)
  | [] => none
  | [x] => some x
  | x :: y :: l => (foldR_ F (y :: l)).bind fun t => F x t
theorem foldR_cons {F : List Int → List Int → Option (List Int)} {x : List Int} {l : List (List Int)} (h : l ≠ []) : foldR_ F (x :: l) = (foldR_ F l).bind fun t => F x t := by
  cases l with
  | nil => exact absurd rfl h
  | cons y l => rfl
theorem foldR_some {F : List Int → List Int → Option (List Int)} : ∀ (l : List (List Int)) (r : List Int), foldR_ F l = some r → ∀ j, j < l.length → ∃ t, foldR_ F (l.drop j) = some t
  | [], r, h, j, hj => by simp at hj
  | [x], r, h, j, hj => by
    have : j = 0 := by simp at hj; exact hj
    subst this
    exact ⟨r, h⟩
  | x :: y :: l, r, h, j, hj => by
    cases j with
    | zero => exact ⟨r, h⟩
    | succ j =>
      rw [foldR_] at h
      obtain ⟨t, ht, _⟩ := Option.bind_eq_some_iff.mp h
      exact foldR_some (y :: l) t ht j (by simp at hj ⊢; omega)
theorem methER (a0 a1 a2 a3 a4 a5 : Int) (w : World) : (method 302 82 (.agg #[.int .i64 a0, .int .i64 a1, .int .i64 a2, .int .u64 a3, .int .u64 a4, .int .u64 a5]) "EmptyRoot").run Tryd.prog w = .ok (135, .agg #[.int .i64 a0, .int .i64 a1, .int .i64 a2, .int .u64 a3, .int .u64 a4, .int .u64 a5]) w := by kernel_rfl
set_option maxHeartbeats 16000000 in
set_option maxRecDepth 100000 in
theorem treeHashAt0.calls (k : Nat) (a0 a1 a2 a3 a4 a5 : Int) (tb base g : Nat) (nI : Int) (H : SH) (hs : List SH) (rows : List (List SH)) (val : Nat → Nat → List Int) (r : List Int) (w : World) (T : TreeAt w tb base g (.iface 82 (toyV a0 a1 a2 a3 a4 a5)) nI H hs rows val) (h : impl_toy_EmptyRoot.f k a0 a1 a2 a3 a4 a5 = some r) :
    Calls Tryd.prog 46 #[.pointer (some ⟨g, 0, none⟩), .int .u64 0] w fun e w' => ∃ v, e = .returned v ∧ Kd.R (Kd.int .u8) 5 w' w.heap.size (fun _ => True) v r ∧ Below w.heap.size w w' := by
  have hm := methER a0 a1 a2 a3 a4 a5
  obtain ⟨t0, t1, t2⟩ := T.c0
  have HH := Aside0.mk h
  clear h T t1 t2
  go_enter Tryd.func46, Tryd.ntmps46
  go_wp2_with (fail)
  refine (impl_toy_EmptyRoot.calls k a0 a1 a2 a3 a4 a5 r _ HH.out).mono ?_
  rintro e w1 ⟨v1, rfl, h1, h2⟩
  have H1 := Aside0.mk h1
  have H2 := Aside0.mk h2
  clear h1 h2
  dsimp only
  go_wp2
  go_ret
  exact ⟨_, rfl, H1.out, H2.out⟩
set_option maxHeartbeats 16000000 in
set_option maxRecDepth 100000 in
theorem treeHashAt.calls (k : Nat) (a0 a1 a2 a3 a4 a5 : Int) (tb base g : Nat) (nI : Int) (H : SH) (hs : List SH) (rows : List (List SH)) (val : Nat → Nat → List Int) (m : Int) (ids : List S99) (ss : List SH) (bl : List (List Int)) (r : List Int) (w : World) (hG : Glob w) (hbase : tb ≤ w.heap.size) (T : TreeAt w tb base g (.iface 82 (toyV a0 a1 a2 a3 a4 a5)) nI H hs rows val) (hm0 : ¬ m = 0)
    (hn : compact_RangeNodes.f k 0 m [] = some ids) (hl : ids.length ≤ 100000) (look : Looks ids rows ss) (hb : bl.length = ss.length) (hbt : ∀ (i : Nat) (s : SH) (b : List Int), ss[i]? = some s → bl[i]? = some b → Txt tb w s b) (hf : foldR_ (impl_toy_HashChildren.f k a0 a1 a2 a3 a4 a5) bl = some r) :
    Calls Tryd.prog 46 #[.pointer (some ⟨g, 0, none⟩), .int .u64 m] w fun e w' => ∃ v, e = .returned v ∧ Kd.R (Kd.int .u8) 5 w' tb (fun _ => True) v r ∧ Below w.heap.size w w' := by
  have hm := methHC a0 a1 a2 a3 a4 a5
  have c0 : (m == 0) = false := beq_eq_false_iff_ne.mpr hm0
  have HT := Aside0.mk T
  have HG := Aside0.mk hG
  have HN := Aside0.mk hn
  have HL := Aside0.mk hl
  have HK := Aside0.mk look
  have HBL := Aside0.mk hb
  have HBT := Aside0.mk hbt
  have HF := Aside0.mk hf
  have HBS := Aside0.mk hbase
  clear T hG hn hl look hb hbt hf hm0 hbase
  go_enter Tryd.func46, Tryd.ntmps46
  go_wp2_with (fail)
  refine (compact_RangeNodes.calls k 0 m (fun _ => False) (.slice none 0 0) [] ids w _ HG.out (Below.refl _ _) (Kd.R_nil _ _ _ _ _) HN.out).mono ?_
  rintro e w1 ⟨v1, rfl, h1, h2, _⟩
  obtain ⟨A1, c1, rfl⟩ := Kd.R_slice h1
  obtain ⟨_, h3, h4⟩ := Kd.R_reads' h1
  have HC1 := Aside0.mk h3
  have HR1 := Aside0.mk h4
  have HB1 := Aside0.mk h2
  clear h1 h2 h3 h4
  dsimp only
  go_wp2_with (fail)
  refine (treeGetNodes.calls tb base g _ nI H hs rows val w1 (HT.out.below HB1.out) A1 c1 ids HR1.out HC1.out HL.out ss HK.out).mono ?_
  rintro e w2 ⟨v2, rfl, h1, h2⟩
  have HR2 := Aside0.mk h1
  have HB2 := Aside0.mk (HB1.out.trans (h2.mono HB1.out.size))
  clear h1 h2
  dsimp only
  obtain ⟨M, hM⟩ : ∃ M, bl.length = M + 1 := by
    cases hbl : bl with
    | nil => have := HF.out; rw [hbl] at this; cases this
    | cons x l => exact ⟨l.length, rfl⟩
  have hsM : ss.length = M + 1 := by rw [← HBL.out]; exact hM
  obtain ⟨gS, cS, n2, e2, hn2⟩ : ∃ gS cS n2, v2 = .slice (some ⟨gS, 0, none⟩) n2 cS ∧ n2 = M + 1 := by
    obtain ⟨a, b, h, _⟩ := Kd.R_form HR2.out (by omega)
    exact ⟨a, b, _, h, hsM⟩
  subst e2 hn2
  obtain ⟨⟨Aq, nq, cq⟩, hq⟩ : ∃ s, ss[M]? = some s := ⟨_, List.getElem?_eq_getElem (by omega)⟩
  obtain ⟨x1, _⟩ := kSH_cell HR2.out hq
  replace x1 : World.cell? _ _ = some (.slice Aq nq cq) := x1
  obtain ⟨bq, hbq⟩ : ∃ b, bl[M]? = some b := ⟨_, List.getElem?_eq_getElem (by omega)⟩
  have HX0 := Aside0.mk ((HBT.out M _ bq hq hbq).pres (Pres5.below HB2.out))
  have hdM : foldR_ (impl_toy_HashChildren.f k a0 a1 a2 a3 a4 a5) (bl.drop M) = some bq := by
    rw [List.drop_eq_getElem_cons (by omega), List.drop_of_length_le (by omega)]
    rw [List.getElem?_eq_getElem (by omega)] at hbq
    rw [foldR_, Option.some.inj hbq]
  have HD0 := Aside0.mk hdM
  have HMB := Aside0.mk hM
  have hMl : (M : Int) ≤ 100000 := by have := HK.out.1; have := HL.out; omega
  have c1 : (M : Int) < (M : Int) + 1 := by omega
  have c2 : decide ((M : Int) < (M : Int) + 1) = true := decide_eq_true c1
  have c3 : 0 ≤ (M : Int) := by omega
  clear hM hsM hq hbq hdM
  go_wp2
  try simp only [Act.put, List.setIfInBounds_toArray, List.set_cons_zero, List.set_cons_succ]
  go_loopg [6, 7] M (fun kq v6 v7 w' => ∃ (s : SH) (b : List Int), v6 = .slice s.1 s.2.1 s.2.2 ∧ v7 = .int .i64 ((kq : Int) - 1) ∧ Aside0 (kq ≤ M) ∧ Aside0 (Txt tb w' s b) ∧ Aside0 (foldR_ (impl_toy_HashChildren.f k a0 a1 a2 a3 a4 a5) (bl.drop kq) = some b) ∧ Aside0 (Rw w' w1.heap.size (.slice (some ⟨gS, 0, none⟩) (M + 1) cS) ss) ∧ Aside0 (Below w.heap.size w w'))
  case atStart => exact ⟨(Aq, nq, cq), bq, rfl, by congr 1; omega, ⟨Nat.le_refl _⟩, HX0, HD0, HR2, HB2⟩
  case round =>
    clear HX0 HD0 HR2 HB2 x1
    obtain ⟨⟨As, ns, cs⟩, b, rfl, rfl, HKM, HX, HD, HR2, HB⟩ := hrel
    cases gk with
    | zero =>
      have hd := HD.out
      rw [List.drop_zero] at hd
      obtain rfl := Option.some.inj (hd.symm.trans HF.out)
      clear hd
      go_wp2
      go_ret
      exact ⟨_, rfl, HX.out, HB.out⟩
    | succ j =>
      obtain ⟨rfl, hx2, hx3⟩ := HX.out.read
      obtain ⟨⟨At, nt, ct⟩, ht⟩ : ∃ s, ss[j]? = some s := ⟨_, List.getElem?_eq_getElem (by have := HKM.out; have := HMB.out; have := HBL.out; omega)⟩
      obtain ⟨bt, hbt⟩ : ∃ b, bl[j]? = some b := ⟨_, List.getElem?_eq_getElem (by have := HKM.out; have := HMB.out; omega)⟩
      have hT := (HBT.out j _ bt ht hbt).pres (Pres5.below HB.out)
      obtain ⟨rfl, hy2, hy3⟩ := hT.read
      obtain ⟨x1, _⟩ := kSH_cell HR2.out ht
      replace x1 : World.cell? _ _ = some (.slice At bt.length ct) := x1
      obtain ⟨t, hft⟩ := foldR_some bl r HF.out j (by have := HKM.out; have := HMB.out; omega)
      have hcall : impl_toy_HashChildren.f k a0 a1 a2 a3 a4 a5 bt b = some t := by
        have h1 := hft
        rw [List.drop_eq_getElem_cons (by have := HKM.out; have := HMB.out; omega), foldR_cons (by
          intro h
          have := congrArg List.length h
          rw [List.length_drop, List.length_nil] at this
          have := HKM.out; have := HMB.out
          omega), HD.out, Option.bind_some] at h1
        rw [List.getElem?_eq_getElem (by have := HKM.out; have := HMB.out; omega)] at hbt
        rw [Option.some.inj hbt] at h1
        exact h1
      have hTT := HT.out.below HB.out
      obtain ⟨t0, _, _⟩ := hTT.c0
      have d0 : 0 ≤ (j : Int) := by omega
      have d1 : (j : Int) < (M : Int) + 1 := by have := HKM.out; omega
      have d2 : decide ((j : Int) < (M : Int) + 1) = true := decide_eq_true d1
      have d3 : decide (j < M + 1) = true := decide_eq_true (by omega)
      have HY3 := Aside0.mk hy3
      have HX3 := Aside0.mk hx3
      have HFT := Aside0.mk hft
      have HC := Aside0.mk hcall
      clear ht hbt hT hy3 hx3 hft hcall hTT
      rw [show (((j + 1 : Nat) : Int) - 1) = (j : Int) by omega]
      go_wp2
      go_region_with (go_at_call 50; refine (impl_toy_HashChildren.calls k a0 a1 a2 a3 a4 a5 At ct bt As cs b t _ ?s1 hy2 ?s3 hx2 HC.out).mono ?_; (case s1 => repeat (first | exact HY3.out | (refine Kd.C_drewN ?_ _) | (refine Kd.C_drew ?_))); (case s3 => repeat (first | exact HX3.out | (refine Kd.C_drewN ?_ _) | (refine Kd.C_drew ?_))); rintro e w4 ⟨v4, rfl, hR4, hb4⟩; have HR4 := Aside0.mk hR4; have HB4 := Aside0.mk (show Below wr.heap.size wr w4 from Below.trans (by repeat (first | exact Below.refl _ _ | apply Below.drew | apply pw_below_drewN)) hb4); clear hR4 hb4)
      all_goals
        clear x1 t0 hx2 hy2
        obtain ⟨⟨A4, n4, c4⟩, e4⟩ := kSH_val' HR4.out
        subst e4
        go_step
        simp [Act.put]
        go_step
        go_wp2
        go_roundg j
        case measure => omega
        case rel => exact ⟨(A4, n4, c4), t, rfl, by first | rfl | (congr 1), ⟨by have := HKM.out; omega⟩, ⟨Txt.of_R HR4.out (Nat.le_trans HBS.out HB.out.size)⟩, HFT, ⟨Kd.R_below HR2.out HB4.out⟩, ⟨HB.out.trans (HB4.out.mono HB.out.size)⟩⟩
end Go.Proofs.YtielnphmcaecdaaDoor.PAll
