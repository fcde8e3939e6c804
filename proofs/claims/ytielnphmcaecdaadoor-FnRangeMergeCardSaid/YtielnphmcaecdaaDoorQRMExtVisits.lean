-- Written by a program of this session (wip/tools)
import Derived.Test.YtielnphmcaecdaaDoorQRMExtRangeG
import Derived.Test.YtielnphmcaecdaaDoorQRMTreeMem
import Derived.Test.YtielnphmcaecdaaDoorQRMPAllx5
import Derived.Outline
import Derived.Deep.QuietTactic
import Derived.BigQuiet
import Derived.IntWalk
namespace Go.Proofs.YtielnphmcaecdaaDoor.PAll
open Go.IntWalk Go.RowKit Go.Proofs.YtielnphmcaecdaaDoor.Num Go.Proofs.YtielnphmcaecdaaDoor.Mth Go.Proofs.YtielnphmcaecdaaDoorW.PrintWords Go.Proofs.YtielnphmcaecdaaDoorW.PrintLast Go.Proofs.YtielnphmcaecdaaDoorW.PrintMore
set_option linter.unusedVariables false
set_option linter.unusedSimpArgs false
def onesB (m low : Nat) : Nat → Nat
  | 0 => 0
  | t + 1 => onesB m low t + m / 2 ^ (low + t) % 2
theorem onesB_le (m low : Nat) : ∀ t, onesB m low t ≤ t
  | 0 => Nat.le_refl _
  | t + 1 => by have := onesB_le m low t; rw [onesB]; omega
def gseed (F : List Int → List Int → Option (List Int)) (m low : Nat) (xs ys : List (List Int)) (x : List Int) : Nat → Option (List Int)
  | 0 => some x
  | t + 1 => (gseed F m low xs ys x t).bind fun s => if m / 2 ^ (low + t) % 2 = 1 then F (xs.getD (xs.length - 1 - onesB m low t) []) s else F s (ys.getD (t - onesB m low t) [])
theorem gseed_some {F : List Int → List Int → Option (List Int)} {m low : Nat} {xs ys : List (List Int)} {x : List Int} : ∀ (T : Nat) (r : List Int), gseed F m low xs ys x T = some r → ∀ t, t ≤ T → ∃ s, gseed F m low xs ys x t = some s
  | 0, r, h, t, ht => by
    obtain rfl : t = 0 := by omega
    exact ⟨r, h⟩
  | T + 1, r, h, t, ht => by
    by_cases e : t = T + 1
    · subst e; exact ⟨r, h⟩
    · rw [gseed] at h
      obtain ⟨s, hs, _⟩ := Option.bind_eq_some_iff.mp h
      exact gseed_some T s hs t (by omega)
def gsOf (F : List Int → List Int → Option (List Int)) (m low : Nat) (xs ys : List (List Int)) (x : List Int) (t : Nat) : List Int := (gseed F m low xs ys x t).getD []
theorem gseed_of {F : List Int → List Int → Option (List Int)} {m low : Nat} {xs ys : List (List Int)} {x : List Int} {T : Nat} {r : List Int} (h : gseed F m low xs ys x T = some r) {t : Nat} (ht : t ≤ T) : gseed F m low xs ys x t = some (gsOf F m low xs ys x t) := by
  obtain ⟨s, hs⟩ := gseed_some T r h t ht
  unfold gsOf
  rw [hs]; rfl
theorem gseed_mono {F F' : List Int → List Int → Option (List Int)} (h : ∀ a b, LeO (F a b) (F' a b)) (m low : Nat) (xs ys : List (List Int)) (x : List Int) : ∀ t, LeO (gseed F m low xs ys x t) (gseed F' m low xs ys x t)
  | 0 => LeO.refl _
  | t + 1 => LeO.bind (gseed_mono h m low xs ys x t) (fun s => LeO.ite (h _ _) (h _ _))
def okN (e : Nat) (low : Int) (xs ys : List (List Int)) : Bool :=
  decide (0 ≤ low) && (decide (low ≤ 64) && (decide (bits_OnesCount64.f (Go.bits .and .u64 ((e : Int) / 2 ^ min low.toNat 64) 0) = some 0) && (decide (xs.length < 1099511627776) && decide (ys.length < 1099511627776))))
def okY (e low D : Nat) (sds : Nat → List Int) (xs ys : List (List Int)) : Bool :=
  decide (low + D ≤ 64) && (decide (bits_OnesCount64.f (Go.bits .and .u64 ((e : Int) / 2 ^ min low 64) (IntKind.u64.wrap (IntKind.u64.wrap (2 ^ min D 64) - 1))) = some (onesB e low D : Int)) && (decide (xs.length < 1099511627776) && (decide (ys.length < 1099511627776) && (List.range (D + 1)).all fun t => decide (onesB e low t ≤ xs.length) && (decide (t - onesB e low t ≤ ys.length) && decide ((sds t).length ≤ 140737488355328)))))
def mergeApp (F : List Int → List Int → Option (List Int)) (k : Nat) (b : Int) (e : Nat) (en : Int) (xs : List (List Int)) (x : List Int) (ys : List (List Int)) : Option (List (List Int) × List S51) :=
  (compact_getMergePath.f k b (e : Int) en).bind fun p =>
    if p.2 < p.1 then (if okN e p.1 xs ys = true then some (xs ++ [x] ++ ys, []) else none)
    else if 0 ≤ p.1 then (gseed F e p.1.toNat xs ys x (p.2 - p.1).toNat).bind fun s => if okY e p.1.toNat (p.2 - p.1).toNat (gsOf F e p.1.toNat xs ys x) xs ys = true then some (xs.take (xs.length - onesB e p.1.toNat (p.2 - p.1).toNat) ++ [s] ++ ys.drop ((p.2 - p.1).toNat - onesB e p.1.toNat (p.2 - p.1).toNat), visA p.1.toNat (fun t => ((e / 2 ^ (p.1.toNat + t) : Nat) : Int)) (gsOf F e p.1.toNat xs ys x) (p.2 - p.1).toNat) else none
    else none
theorem mergeApp_mono {F F' : List Int → List Int → Option (List Int)} (h : ∀ a b, LeO (F a b) (F' a b)) (k : Nat) (b : Int) (e : Nat) (en : Int) (xs : List (List Int)) (x : List Int) (ys : List (List Int)) : LeO (mergeApp F k b e en xs x ys) (mergeApp F' (k + 1) b e en xs x ys) := by
  unfold mergeApp
  refine LeO.bind (compact_getMergePath.mono _ _ _ _) (fun p => ?_)
  by_cases hp : p.2 < p.1
  · rw [if_pos hp, if_pos hp]; exact LeO.refl _
  rw [if_neg hp, if_neg hp]
  by_cases hq : 0 ≤ p.1
  case neg => rw [if_neg hq, if_neg hq]; exact LeO.refl _
  rw [if_pos hq, if_pos hq]
  intro r hr
  obtain ⟨s, hs, hr⟩ := Option.bind_eq_some_iff.mp hr
  generalize (p.2 - p.1).toNat = D at hs hr ⊢
  generalize p.1.toNat = low at hs hr ⊢
  have he : ∀ t, t ≤ D → gsOf F' e low xs ys x t = gsOf F e low xs ys x t := fun t ht => by
    have h1 := gseed_of hs ht
    have h2 := gseed_mono h e low xs ys x t _ h1
    unfold gsOf at h2 ⊢
    rw [h2]; rfl
  by_cases hok : okY e low D (gsOf F e low xs ys x) xs ys = true
  case neg => rw [if_neg hok] at hr; cases hr
  rw [if_pos hok] at hr
  have hok' : okY e low D (gsOf F' e low xs ys x) xs ys = true := by
    unfold okY at hok ⊢
    simp only [Bool.and_eq_true] at hok ⊢
    refine ⟨hok.1, hok.2.1, hok.2.2.1, hok.2.2.2.1, ?_⟩
    have := hok.2.2.2.2
    refine List.all_eq_true.mpr (fun t ht => ?_)
    rw [he t (by have := List.mem_range.mp ht; omega)]
    exact List.all_eq_true.mp this t ht
  have hv : ∀ ix, visA low ix (gsOf F' e low xs ys x) D = visA low ix (gsOf F e low xs ys x) D := fun ix => by
    unfold visA
    refine List.map_congr_left (fun t ht => ?_)
    rw [he (t + 1) (by have := List.mem_range.mp ht; omega)]
  rw [gseed_mono h e low xs ys x _ _ hs, Option.bind_some, if_pos hok', hv]
  exact hr
def rangeApp (F : List Int → List Int → Option (List Int)) (k : Nat) (b e e2 : Int) (xs ys : List (List Int)) : Option (Int × List (List Int) × List S51) :=
  match ys with
  | [] => some (e, xs, [])
  | y :: l => (mergeApp F k b e.toNat e2 xs y l).bind fun p => some (e2, p.1, p.2)
theorem rangeApp_mono {F F' : List Int → List Int → Option (List Int)} (h : ∀ a b, LeO (F a b) (F' a b)) (k : Nat) (b e e2 : Int) (xs ys : List (List Int)) : LeO (rangeApp F k b e e2 xs ys) (rangeApp F' (k + 1) b e e2 xs ys) := by
  cases ys with
  | nil => exact LeO.refl _
  | cons y l => exact LeO.bind (mergeApp_mono h _ _ _ _ _ _ _) (fun p => LeO.refl _)
def impl_AppendRange.f (k : Nat) (a0 a1 a2 a3 a4 a5 b e : Int) (hs : List (List Int)) (b2 e2 : Int) (hs2 : List (List Int)) : Option (Int × Int × List (List Int) × List S51 × Bool) :=
  if (0 ≤ b ∧ b ≤ e ∧ e < 18446744073709551616) ∧ compact_RangeSize.f k b e = some (hs.length : Int) ∧ b2 ≤ e2 ∧ compact_RangeSize.f k b2 e2 = some (hs2.length : Int) then (impl_texts.f k hs).bind fun xs => (impl_texts.f k hs2).bind fun ys => if xs.length = hs.length ∧ ys.length = hs2.length then (if b2 = e then (rangeApp (impl_toy_HashChildren.f k a0 a1 a2 a3 a4 a5) k b e e2 xs ys).bind fun p => (impl_texts.f k p.2.1).bind fun r => some (b, p.1, r, p.2.2, true) else some (0, 0, [], [], false)) else none else none
theorem impl_AppendRange.mono : ∀ a0 a1 a2 a3 a4 a5 b e hs b2 e2 hs2 k, LeO (impl_AppendRange.f k a0 a1 a2 a3 a4 a5 b e hs b2 e2 hs2) (impl_AppendRange.f (k + 1) a0 a1 a2 a3 a4 a5 b e hs b2 e2 hs2) := by
  intro a0 a1 a2 a3 a4 a5 b e hs b2 e2 hs2 k
  unfold impl_AppendRange.f
  by_cases h : (0 ≤ b ∧ b ≤ e ∧ e < 18446744073709551616) ∧ compact_RangeSize.f k b e = some (hs.length : Int) ∧ b2 ≤ e2 ∧ compact_RangeSize.f k b2 e2 = some (hs2.length : Int)
  case neg => rw [if_neg h]; exact LeO.none _
  rw [if_pos h, if_pos ⟨h.1, compact_RangeSize.mono _ _ _ _ h.2.1, h.2.2.1, compact_RangeSize.mono _ _ _ _ h.2.2.2⟩]
  exact LeO.bind (impl_texts.mono _ _) (fun x => LeO.bind (impl_texts.mono _ _) (fun y => LeO.ite (LeO.ite (LeO.bind (rangeApp_mono (fun a b => impl_toy_HashChildren.mono _ _ _ _ _ _ _ _ _) k _ _ _ _ _) (fun p => LeO.bind (impl_texts.mono _ _) (fun _ => LeO.refl _))) (LeO.refl _)) (LeO.refl _)))
theorem Appd.draws {w w' : World} {tb p fq q : Nat} {a0 a1 a2 a3 a4 a5 b en : Int} {A : Option Addr} {c n : Nat} {xs : List (List Int)} {vs : List S51} {m : Nat} (h : Appd (w.drewN m) w' tb p fq q a0 a1 a2 a3 a4 a5 b en A c n xs vs) : Appd w w' tb p fq q a0 a1 a2 a3 a4 a5 b en A c n xs vs := by
  obtain ⟨A', c', ss', SV', R', q', S', F, hB', hat⟩ := h
  exact ⟨A', c', ss', SV', R', q', S', ⟨F.os, F.tape, F.output, F.size, F.block⟩, fun B h1 h2 h3 => (pw_below_drewN (Below.refl B w) m).trans (hB' B h1 h2 h3), hat⟩
theorem and_one_even (n : Nat) (hn : n < 18446744073709551616) (h : n % 2 ≠ 1) : Go.bits .and .u64 (n : Int) 1 = 0 := by
  have h4 := u64_and_nat n 1 hn (by omega)
  rw [Nat.and_one_is_mod, show n % 2 = 0 by omega] at h4
  exact h4
set_option maxHeartbeats 4000000 in
theorem rangeApp.calls (k : Nat) (a0 a1 a2 a3 a4 a5 : Int) (tb p px fq q : Nat) (b e2 : Int) (e : Nat) (A : Option Addr) (c : Nat) (ss : List SH) (xs : List (List Int)) (SV : Value) (Ay : Option Addr) (cy : Nat) (st : List SH) (ys : List (List Int)) (w : World) (en : Int) (zs : List (List Int)) (V : List S51)
    (hG : Glob w) (htb : tb ≤ w.heap.size) (R : RgAt w tb p fq a0 a1 a2 a3 a4 a5 b (e : Int) A c ss xs) (hq : w.heap[q]? = some (.cells #[SV] 36 (0, 0))) (hS : Kd.S k51 51 w tb (fun _ => True) SV []) (he : e < 18446744073709551616)
    (cellx : w.heap[px]? = some (.cells #[.pointer (some ⟨fq, 0, none⟩), .int .u64 (e : Int), .int .u64 e2, .slice Ay st.length cy] 148 (0, 0))) (hpx : px ≠ p)
    (Y : Rw w tb (.slice Ay st.length cy) st) (hyl : st.length = ys.length) (hyt : ∀ (j : Nat) (s : SH) (x : List Int), st[j]? = some s → ys[j]? = some x → Txt tb w s x) (hap : ∀ g, (Value.slice Ay st.length cy).ownBlock = some g → some g ≠ (Value.slice A ss.length c).ownBlock)
    (h : rangeApp (impl_toy_HashChildren.f k a0 a1 a2 a3 a4 a5) k b (e : Int) e2 xs ys = some (en, zs, V)) :
    Calls Tryd.prog 52 #[.pointer (some ⟨p, 0, none⟩), .pointer (some ⟨px, 0, none⟩), .func (.func 53) #[] #[.pointer (some ⟨q, 0, none⟩)]] w fun ex w' => ex = .returned .nilIface ∧ Appd w w' tb p fq q a0 a1 a2 a3 a4 a5 b en A c ss.length zs V := by
  cases ys with
  | nil =>
    have h := Option.some.inj h
    simp only [Prod.mk.injEq] at h
    obtain ⟨rfl, rfl, rfl⟩ := h
    have hl0 : st.length = 0 := hyl
    rw [hl0] at cellx
    refine (appendRangeNil.calls p px fq q b (e : Int) e2 (.slice A ss.length c) Ay cy w R.cell cellx).mono ?_
    rintro ex w' ⟨rfl, m, rfl⟩
    have hb := pw_below_drewN (Below.refl w.heap.size w) m
    exact ⟨rfl, A, c, ss, SV, R.below hb, blk_below hq hb, Kd.S_below hS hb, ⟨hb.os, hb.tape, hb.output, hb.size, fun k hk _ _ _ _ => hb.block k hk⟩, fun B h1 _ _ => hb.mono (Nat.le_trans h1 htb), .inl rfl⟩
  | cons y l =>
    unfold rangeApp at h
    obtain ⟨⟨zs', V'⟩, hm, h⟩ := Option.bind_eq_some_iff.mp h
    have h := Option.some.inj h
    simp only [Prod.mk.injEq] at h
    obtain ⟨rfl, rfl, rfl⟩ := h
    rw [Int.toNat_natCast] at hm
    cases st with
    | nil => cases hyl
    | cons s0 rr =>
      rw [List.length_cons] at cellx Y hap
      have hrl : rr.length = l.length := by rw [List.length_cons, List.length_cons] at hyl; omega
      obtain ⟨gy, cc, e4, hgy⟩ := kSH_form (s := (Ay, rr.length + 1, cy)) Y (Nat.succ_pos _)
      simp only [Prod.mk.injEq] at e4
      obtain ⟨rfl, -, rfl⟩ := e4
      obtain ⟨As, ns, cs⟩ := s0
      have hown : (Value.slice (some ⟨gy, 0, none⟩) (rr.length + 1) cy).ownBlock = some gy := rfl
      have hap' := hap gy hown
      have hsd := hyt 0 (As, ns, cs) y rfl rfl
      have hyt' : ∀ (j : Nat) (s : SH) (x : List Int), rr[j]? = some s → l[j]? = some x → Txt tb w s x := fun j s x h1 h2 => hyt (j + 1) s x h1 h2
      have hqp : q ≠ p := ty_ne hq R.cell (by decide)
      have hxr : some px ≠ (Value.slice A ss.length c).ownBlock := fun e => by
        obtain ⟨d, hd⟩ := Kd.R_typed R.row px e.symm
        exact ty_ne cellx hd (by decide) rfl
      obtain ⟨cg, hcg⟩ := Kd.R_typed Y gy hown
      have hx4 : w.cell? ⟨gy, 0, none⟩ = some (.slice As ns cs) := (kSH_cell Y (i := 0) (x := (As, ns, cs)) rfl).1
      have keep : ∀ {w' : World} {zs : List (List Int)} {vs : List S51}, Appd w w' tb p fq q a0 a1 a2 a3 a4 a5 b e2 A c ss.length zs vs → w'.cell? ⟨px, 2, none⟩ = some (.int .u64 e2) ∧ w'.cell? ⟨px, 3, none⟩ = some (.slice (some ⟨gy, 0, none⟩) (rr.length + 1) cy) ∧ w'.cell? ⟨gy, 0, none⟩ = some (.slice As ns cs) := fun hA => by
        obtain ⟨A', c', ss', SV', R', q', S', F, hB', hat⟩ := hA
        have f1 := F.blk cellx hpx (ty_ne cellx hq (by decide)) hxr (by decide)
        have f2 := F.blk hcg (ty_ne hcg R.cell (by decide)) (ty_ne hcg hq (by decide)) hap' (by decide)
        refine ⟨blk_cell f1 2, blk_cell f1 3, ?_⟩
        have : ∀ (W W' : World) (g : Nat), W'.heap[g]? = W.heap[g]? → W'.cell? ⟨g, 0, none⟩ = W.cell? ⟨g, 0, none⟩ := fun W W' g h => by unfold World.cell?; rw [h]
        rw [this w _ gy (f2.trans hcg.symm)]; exact hx4
      have hAll : ∀ m, Calls Tryd.prog 90 #[.pointer (some ⟨p, 0, none⟩), .int .u64 e2, .slice As ns cs, .slice (if cy = 1 then (some ⟨gy, 0, none⟩ : Option Addr) else (some ⟨gy, 0, none⟩ : Option Addr).map (·.add (1 * 1))) rr.length (cy - 1), .func (.func 53) #[] #[.pointer (some ⟨q, 0, none⟩)]] (w.drewN m) fun ex w' => ex = .returned .nilIface ∧ Appd w w' tb p fq q a0 a1 a2 a3 a4 a5 b e2 A c ss.length zs' V' := by
        intro m
        have hb := pw_below_drewN (Below.refl w.heap.size w) m
        unfold mergeApp at hm
        obtain ⟨⟨lo, hi⟩, hmp, hm⟩ := Option.bind_eq_some_iff.mp hm
        dsimp only at hm
        by_cases hlt : hi < lo
        · rw [if_pos hlt] at hm
          by_cases hok : okN e lo xs l = true
          case neg => rw [if_neg hok] at hm; cases hm
          rw [if_pos hok] at hm
          have hm := Option.some.inj hm
          simp only [Prod.mk.injEq] at hm
          obtain ⟨rfl, rfl⟩ := hm
          unfold okN at hok
          simp only [Bool.and_eq_true, decide_eq_true_eq] at hok
          obtain ⟨o1, o2, o3, o4, o5⟩ := hok
          obtain ⟨low, rfl⟩ : ∃ low : Nat, lo = (low : Int) := ⟨lo.toNat, by omega⟩
          rw [Int.toNat_natCast] at o3
          refine (appendMixNone.calls k a0 a1 a2 a3 a4 a5 tb p fq q b (e : Int) e2 low hi A c ss xs As ns cs SV [] y gy cy (As, ns, cs) rr l _ (w.drewN m) (hG.below hb) (Nat.le_trans htb hb.size) (R.below hb) (hsd.pres (Pres5.below hb)) (blk_below hq hb) (Kd.S_below hS hb) hmp hlt (by omega) (Kd.R_below Y hb) hrl (fun j s x h1 h2 => (hyt' j s x h1 h2).pres (Pres5.below hb)) hap' rfl o5 o3 o4).mono ?_
          rintro ex w' ⟨rfl, hA⟩
          exact ⟨rfl, hA.draws⟩
        · rw [if_neg hlt] at hm
          by_cases hlo : 0 ≤ lo
          case neg => rw [if_neg hlo] at hm; cases hm
          rw [if_pos hlo] at hm
          obtain ⟨low, rfl⟩ : ∃ low : Nat, lo = (low : Int) := ⟨lo.toNat, by omega⟩
          obtain ⟨D, hD⟩ : ∃ D : Nat, (hi - (low : Int)).toNat = D := ⟨_, rfl⟩
          rw [Int.toNat_natCast, hD] at hm
          obtain ⟨s, hs, hm⟩ := Option.bind_eq_some_iff.mp hm
          by_cases hok : okY e low D (gsOf (impl_toy_HashChildren.f k a0 a1 a2 a3 a4 a5) e low xs l y) xs l = true
          case neg => rw [if_neg hok] at hm; cases hm
          rw [if_pos hok] at hm
          have hm := Option.some.inj hm
          simp only [Prod.mk.injEq] at hm
          obtain ⟨rfl, rfl⟩ := hm
          unfold okY at hok
          simp only [Bool.and_eq_true, decide_eq_true_eq] at hok
          obtain ⟨o1, o2, o3, o4, o5⟩ := hok
          have hl : ∀ t, t ≤ D → onesB e low t ≤ xs.length ∧ t - onesB e low t ≤ l.length ∧ (gsOf (impl_toy_HashChildren.f k a0 a1 a2 a3 a4 a5) e low xs l y t).length ≤ 140737488355328 := fun t ht => by
            have := List.all_eq_true.mp o5 t (List.mem_range.mpr (by omega))
            simpa using this
          have hs0 : gsOf (impl_toy_HashChildren.f k a0 a1 a2 a3 a4 a5) e low xs l y 0 = y := rfl
          have hsT : gsOf (impl_toy_HashChildren.f k a0 a1 a2 a3 a4 a5) e low xs l y D = s := by unfold gsOf; rw [hs]; rfl
          have hEd : ∀ t, e / 2 ^ t < 18446744073709551616 := fun t => Nat.lt_of_le_of_lt (Nat.div_le_self _ _) he
          have hstep : ∀ t, t < D → (Go.bits .and .u64 ((e / 2 ^ (low + t) : Nat) : Int) 1 = 1 ∧ onesB e low (t + 1) = onesB e low t + 1 ∧ impl_toy_HashChildren.f k a0 a1 a2 a3 a4 a5 (xs.getD (xs.length - 1 - onesB e low t) []) (gsOf (impl_toy_HashChildren.f k a0 a1 a2 a3 a4 a5) e low xs l y t) = some (gsOf (impl_toy_HashChildren.f k a0 a1 a2 a3 a4 a5) e low xs l y (t + 1))) ∨ (Go.bits .and .u64 ((e / 2 ^ (low + t) : Nat) : Int) 1 = 0 ∧ onesB e low (t + 1) = onesB e low t ∧ impl_toy_HashChildren.f k a0 a1 a2 a3 a4 a5 (gsOf (impl_toy_HashChildren.f k a0 a1 a2 a3 a4 a5) e low xs l y t) (l.getD (t - onesB e low t) []) = some (gsOf (impl_toy_HashChildren.f k a0 a1 a2 a3 a4 a5) e low xs l y (t + 1))) := fun t ht => by
            have g1 := gseed_of hs (show t ≤ D by omega)
            have g2 := gseed_of hs (show t + 1 ≤ D by omega)
            rw [gseed, g1, Option.bind_some] at g2
            by_cases hbit : e / 2 ^ (low + t) % 2 = 1
            · rw [if_pos hbit] at g2
              exact .inl ⟨and_one_odd _ (hEd _) hbit, by rw [onesB, hbit], g2⟩
            · rw [if_neg hbit] at g2
              exact .inr ⟨and_one_even _ (hEd _) hbit, by rw [onesB]; omega, g2⟩
          refine (appendMix.calls k a0 a1 a2 a3 a4 a5 tb p fq q b (e : Int) e2 low D hi A c ss xs As ns cs SV [] (fun t => ((e / 2 ^ (low + t) : Nat) : Int)) (gsOf (impl_toy_HashChildren.f k a0 a1 a2 a3 a4 a5) e low xs l y) (onesB e low) gy cy (As, ns, cs) rr l _ (w.drewN m) (hG.below hb) (Nat.le_trans htb hb.size) (R.below hb) (hsd.pres (Pres5.below hb)) (blk_below hq hb) (Kd.S_below hS hb) hmp (by omega) o1 ?_ ?_ (Kd.R_below Y hb) hrl (fun j s x h1 h2 => (hyt' j s x h1 h2).pres (Pres5.below hb)) hap' rfl rfl (fun t ht => ⟨onesB_le e low t, (hl t ht).1, (hl t ht).2.1⟩) o4 hstep o2 o3 (by decide) (fun t ht => (hl t ht).2.2)).mono ?_
          · show ((e / 2 ^ (low + 0) : Nat) : Int) = (e : Int) / 2 ^ min low 64
            rw [Nat.add_zero, Nat.min_eq_left (by omega), Int.natCast_ediv, Int.natCast_pow]; rfl
          · intro t ht
            show ((e / 2 ^ (low + (t + 1)) : Nat) : Int) = ((e / 2 ^ (low + t) : Nat) : Int) / 2
            rw [← Nat.add_assoc, Nat.pow_succ, ← Nat.div_div_eq_div_mul]; omega
          · rintro ex w' ⟨rfl, hA⟩
            rw [hsT] at hA
            exact ⟨rfl, hA.draws⟩
      refine (appendRangeYes.calls p px fq q gy cy b (e : Int) e2 (.slice A ss.length c) (As, ns, cs) rr tb _ w hG R.cell cellx Y rfl (fun _ w' => Appd w w' tb p fq q a0 a1 a2 a3 a4 a5 b e2 A c ss.length zs' V') (fun m => (hAll m).mono ?_))
      rintro ex w' ⟨rfl, hA⟩
      exact ⟨rfl, hA, keep hA⟩
end Go.Proofs.YtielnphmcaecdaaDoor.PAll
namespace Go.Proofs.YtielnphmcaecdaaDoor.PAll
open Go.IntWalk Go.RowKit Go.Proofs.YtielnphmcaecdaaDoor.Num Go.Proofs.YtielnphmcaecdaaDoor.Mth Go.Proofs.YtielnphmcaecdaaDoorW.PrintWords Go.Proofs.YtielnphmcaecdaaDoorW.PrintLast Go.Proofs.YtielnphmcaecdaaDoorW.PrintMore
set_option linter.unusedVariables false
set_option linter.unusedSimpArgs false
theorem five (w : World) (o0 o1 o2 o3 o4 : Obj) : (((((w.alloc o0).alloc o1).alloc o2).alloc o3).alloc o4).heap[w.heap.size + 1]? = some o1 ∧ (((((w.alloc o0).alloc o1).alloc o2).alloc o3).alloc o4).heap[w.heap.size + 1 + 1]? = some o2 ∧ (((((w.alloc o0).alloc o1).alloc o2).alloc o3).alloc o4).heap[w.heap.size + 1 + 1 + 1]? = some o3 ∧ (((((w.alloc o0).alloc o1).alloc o2).alloc o3).alloc o4).heap[w.heap.size + 1 + 1 + 1 + 1]? = some o4 ∧ Below w.heap.size w (((((w.alloc o0).alloc o1).alloc o2).alloc o3).alloc o4) := by
  obtain ⟨f1, f2, f3, f4⟩ := four w o0 o1 o2 o3
  have s4 : ((((w.alloc o0).alloc o1).alloc o2).alloc o3).heap.size = w.heap.size + 1 + 1 + 1 + 1 := by rw [World.size_alloc, World.size_alloc, World.size_alloc, World.size_alloc]
  have b4 := blk_new ((((w.alloc o0).alloc o1).alloc o2).alloc o3) o4
  rw [s4] at b4
  exact ⟨blk_alloc f1 _, blk_alloc f2 _, blk_alloc f3 _, b4, below_alloc f4 _⟩
set_option maxHeartbeats 8000000 in
set_option maxRecDepth 100000 in
theorem impl_AppendRange.calls (k : Nat) (a0 a1 a2 a3 a4 a5 b e : Int) (A : Option Addr) (c : Nat) (hs : List (List Int)) (b2 e2 : Int) (A2 : Option Addr) (c2 : Nat) (hs2 : List (List Int)) (r0 r1 : Int) (r2 : List (List Int)) (r3 : List S51) (r4 : Bool) (w : World) (hG : Glob w)
    (hr : Kd.C (Kd.slice 5 (Kd.int .u8)) w A hs.length hs) (hc : hs.length ≤ c) (hr2 : Kd.C (Kd.slice 5 (Kd.int .u8)) w A2 hs2.length hs2) (hc2 : hs2.length ≤ c2) (h : impl_AppendRange.f k a0 a1 a2 a3 a4 a5 b e hs b2 e2 hs2 = some (r0, r1, r2, r3, r4)) :
    Calls Tryd.prog 19 #[.agg #[.int .i64 a0, .int .i64 a1, .int .i64 a2, .int .u64 a3, .int .u64 a4, .int .u64 a5], .agg #[.int .u64 b, .int .u64 e, .slice A hs.length c], .agg #[.int .u64 b2, .int .u64 e2, .slice A2 hs2.length c2]] w fun ex w' => ∃ v0 v1, ex = .returned (.tuple #[.agg #[.int .u64 r0, .int .u64 r1, v0], v1, .bool r4]) ∧ Kd.S (Kd.slice 5 (Kd.int .u8)) 27 w' w.heap.size (fun _ => True) v0 r2 ∧ Kd.S k51 51 w' w.heap.size (fun _ => True) v1 r3 ∧ Below w.heap.size w w' := by
  unfold impl_AppendRange.f at h
  by_cases hq : (0 ≤ b ∧ b ≤ e ∧ e < 18446744073709551616) ∧ compact_RangeSize.f k b e = some (hs.length : Int) ∧ b2 ≤ e2 ∧ compact_RangeSize.f k b2 e2 = some (hs2.length : Int)
  case neg => rw [if_neg hq] at h; cases h
  rw [if_pos hq] at h
  obtain ⟨⟨hb0, hbe, he64⟩, hrs, hbe2, hrs2⟩ := hq
  obtain ⟨xs, hxs, h⟩ := Option.bind_eq_some_iff.mp h
  obtain ⟨ys, hys, h⟩ := Option.bind_eq_some_iff.mp h
  by_cases hlen : xs.length = hs.length ∧ ys.length = hs2.length
  case neg => rw [if_neg hlen] at h; cases h
  rw [if_pos hlen] at h
  have HG := Aside0.mk hG
  have HR := Aside0.mk hr
  have HC := Aside0.mk hc
  have HR2 := Aside0.mk hr2
  have HC2 := Aside0.mk hc2
  have HRS := Aside0.mk hrs
  have HRS2 := Aside0.mk hrs2
  have HXS := Aside0.mk hxs
  have HYS := Aside0.mk hys
  have HL1 := Aside0.mk hlen.1
  have HL2 := Aside0.mk hlen.2
  have HH := Aside0.mk h
  have HE := Aside0.mk hbe
  have HE2 := Aside0.mk hbe2
  have HB0 := Aside0.mk hb0
  have H64 := Aside0.mk he64
  clear hG hr hc hr2 hc2 hrs hrs2 hxs hys hlen h hbe hbe2 hb0 he64
  go_enter Tryd.func19, Tryd.ntmps19
  go_wp2_with (fail)
  obtain ⟨f1, f2, f3, f4, f5⟩ := five w (Obj.cells #[Value.int IntKind.i64 a0, Value.int IntKind.i64 a1, Value.int IntKind.i64 a2, Value.int IntKind.u64 a3, Value.int IntKind.u64 a4, Value.int IntKind.u64 a5] 24) (Obj.cells #[Value.int IntKind.u64 b, Value.int IntKind.u64 e, Value.slice A hs.length c] 34) (Obj.cells #[Value.int IntKind.u64 b2, Value.int IntKind.u64 e2, Value.slice A2 hs2.length c2] 34) (Obj.cells #[Value.int IntKind.u64 0, Value.int IntKind.u64 0, Value.slice none 0 0] 34) (Obj.cells #[Value.func (Fn.func 50) #[Value.agg #[Value.int IntKind.i64 a0, Value.int IntKind.i64 a1, Value.int IntKind.i64 a2, Value.int IntKind.u64 a3, Value.int IntKind.u64 a4, Value.int IntKind.u64 a5]] #[]] 92)
  generalize (((((w.alloc (Obj.cells #[Value.int IntKind.i64 a0, Value.int IntKind.i64 a1, Value.int IntKind.i64 a2, Value.int IntKind.u64 a3, Value.int IntKind.u64 a4, Value.int IntKind.u64 a5] 24)).alloc (Obj.cells #[Value.int IntKind.u64 b, Value.int IntKind.u64 e, Value.slice A hs.length c] 34)).alloc (Obj.cells #[Value.int IntKind.u64 b2, Value.int IntKind.u64 e2, Value.slice A2 hs2.length c2] 34)).alloc (Obj.cells #[Value.int IntKind.u64 0, Value.int IntKind.u64 0, Value.slice none 0 0] 34)).alloc (Obj.cells #[Value.func (Fn.func 50) #[Value.agg #[Value.int IntKind.i64 a0, Value.int IntKind.i64 a1, Value.int IntKind.i64 a2, Value.int IntKind.u64 a3, Value.int IntKind.u64 a4, Value.int IntKind.u64 a5]] #[]] 92)) = W0 at f1 f2 f3 f4 f5 ⊢
  obtain ⟨g1, hg1⟩ : ∃ g, g = w.heap.size + 1 := ⟨_, rfl⟩
  obtain ⟨go, hg2⟩ : ∃ g, g = w.heap.size + 1 + 1 := ⟨_, rfl⟩
  obtain ⟨g2, hg3⟩ : ∃ g, g = w.heap.size + 1 + 1 + 1 := ⟨_, rfl⟩
  obtain ⟨fq, hg4⟩ : ∃ g, g = w.heap.size + 1 + 1 + 1 + 1 := ⟨_, rfl⟩
  rw [← hg1] at f1
  rw [← hg2] at f2
  rw [← hg3] at f3
  rw [← hg4] at f4
  rw [← hg4, ← hg3, ← hg2, ← hg1]
  have y0 : W0.cell? ⟨g1, 0, none⟩ = some (.int .u64 b) := blk_cell f1 0
  have y1 : W0.cell? ⟨g1, 1, none⟩ = some (.int .u64 e) := blk_cell f1 1
  have y2 : W0.cell? ⟨g1, 2, none⟩ = some (.slice A hs.length c) := blk_cell f1 2
  have BO := Aside0.mk f2
  have BR := Aside0.mk f3
  have BF := Aside0.mk f4
  have HB := Aside0.mk f5
  have HG1 := Aside0.mk (blk_lt f1)
  have HB_ := Aside0.mk (below_size f5)
  have HW1 := Aside0.mk (show w.heap.size ≤ g1 ∧ w.heap.size ≤ g2 ∧ w.heap.size ≤ fq ∧ w.heap.size ≤ go by omega)
  clear f1 f2 f3 f4 f5 hg1 hg2 hg3 hg4
  go_region_held_law (fun w' => w'.cell? ⟨g1, 0, none⟩ = some (.int .u64 b) ∧ w'.cell? ⟨g1, 1, none⟩ = some (.int .u64 e) ∧ w'.cell? ⟨g1, 2, none⟩ = some (.slice A hs.length c)) (first | exact ⟨u0_, u1_, u2_⟩ | exact ⟨v0_, v1_, v2_⟩ | exact ⟨y0, y1, y2⟩ | go_keep) (first
    | (go_simp; go_at_call 45
       have hbd : Below W0.heap.size W0 W0.drew := below_drew (Below.refl _ _)
       have hbw : Below w.heap.size w W0.drew := below_step HB.out hbd
       refine (impl_texts.calls k A c hs xs _ (Kd.C_below HR.out hbw) HC.out HXS.out).mono ?_
       rintro ex wq ⟨v3, rfl, hS3, hb3⟩
       have HB3 := Aside0.mk (show Below W0.heap.size W0 wq from below_step hbd hb3)
       have HS3 := Aside0.mk (Kd.S_lower hS3 (below_size hbw))
       obtain ⟨A3, c3, rfl⟩ := Kd.S_slice hS3
       have v0_ := (HB3.out.cell (p := ⟨g1, 0, none⟩) HG1.out).trans y0
       have v1_ := (HB3.out.cell (p := ⟨g1, 1, none⟩) HG1.out).trans y1
       have v2_ := (HB3.out.cell (p := ⟨g1, 2, none⟩) HG1.out).trans y2
       clear hS3 hb3 hbw hbd)
    | (go_simp; go_at_call 51
       refine (newRange.calls k fq b e A3 xs.length c3 _ (HG.out.below (below_step HB.out HB3.out)) (HE.out) (by rw [HL1.out]; exact HRS.out)).mono ?_
       rintro ex wn ⟨nd, rfl, rfl⟩
       have hp : ((wq.drewN nd).alloc (Obj.cells #[.pointer (some ⟨fq, 0, none⟩), .int .u64 b, .int .u64 e, .slice A3 xs.length c3] 148)).heap[wq.heap.size]? = some (Obj.cells #[.pointer (some ⟨fq, 0, none⟩), .int .u64 b, .int .u64 e, .slice A3 xs.length c3] 148) := blk_new (wq.drewN nd) _
       have hbn : Below W0.heap.size W0 ((wq.drewN nd).alloc (Obj.cells #[.pointer (some ⟨fq, 0, none⟩), .int .u64 b, .int .u64 e, .slice A3 xs.length c3] 148)) := below_alloc (pw_below_drewN HB3.out nd) _
       have hSn := Kd.S_alloc (Kd.S_drewN HS3.out nd) (Obj.cells #[.pointer (some ⟨fq, 0, none⟩), .int .u64 b, .int .u64 e, .slice A3 xs.length c3] 148)
       have hpp : W0.heap.size ≤ wq.heap.size := below_size HB3.out
       generalize (wq.drewN nd).alloc (Obj.cells #[.pointer (some ⟨fq, 0, none⟩), .int .u64 b, .int .u64 e, .slice A3 xs.length c3] 148) = wn at hp hbn hSn ⊢
       generalize wq.heap.size = p at hp hpp ⊢
       have HP := Aside0.mk hp
       have HBN := Aside0.mk hbn
       have HSN := Aside0.mk hSn
       have HPP := Aside0.mk hpp
       have u0_ := (HBN.out.cell (p := ⟨g1, 0, none⟩) HG1.out).trans y0
       have u1_ := (HBN.out.cell (p := ⟨g1, 1, none⟩) HG1.out).trans y1
       have u2_ := (HBN.out.cell (p := ⟨g1, 2, none⟩) HG1.out).trans y2
       clear hp hbn hSn hpp)
    | fail)
  go_wp2_with (fail)
  have HBW := Aside0.mk (show Below w.heap.size w wn from below_step HB.out HBN.out)
  have hbo := blk_below BO.out HBN.out
  have y0b : wn.cell? ⟨go, 0, none⟩ = some (.int .u64 b2) := blk_cell hbo 0
  have y1b : wn.cell? ⟨go, 1, none⟩ = some (.int .u64 e2) := blk_cell hbo 1
  have y2b : wn.cell? ⟨go, 2, none⟩ = some (.slice A2 hs2.length c2) := blk_cell hbo 2
  have HG2 := Aside0.mk (blk_lt hbo)
  have BR2 := Aside0.mk (blk_below BR.out HBN.out)
  have BF2 := Aside0.mk (blk_below BF.out HBN.out)
  clear u0_ u1_ u2_ v0_ v1_ v2_ y0 y1 y2 HB3 HS3 HBN BF BR HB HG1 HR hbo BO
  go_region_held_law (fun w' => w'.cell? ⟨go, 0, none⟩ = some (.int .u64 b2) ∧ w'.cell? ⟨go, 1, none⟩ = some (.int .u64 e2) ∧ w'.cell? ⟨go, 2, none⟩ = some (.slice A2 hs2.length c2)) (first | exact ⟨u0b_, u1b_, u2b_⟩ | exact ⟨v0b_, v1b_, v2b_⟩ | exact ⟨y0b, y1b, y2b⟩ | go_keep) (first
    | (go_simp; go_at_call 45
       have hbd : Below wn.heap.size wn wn.drew := below_drew (Below.refl _ _)
       have hbw : Below w.heap.size w wn.drew := below_step HBW.out hbd
       refine (impl_texts.calls k A2 c2 hs2 ys _ (Kd.C_below HR2.out hbw) HC2.out HYS.out).mono ?_
       rintro ex wq2 ⟨v3, rfl, hS3, hb3⟩
       have HB3b := Aside0.mk (show Below wn.heap.size wn wq2 from below_step hbd hb3)
       have HS3b := Aside0.mk (Kd.S_lower hS3 (below_size hbd))
       obtain ⟨A4, c4, rfl⟩ := Kd.S_slice hS3
       have v0b_ := (HB3b.out.cell (p := ⟨go, 0, none⟩) HG2.out).trans y0b
       have v1b_ := (HB3b.out.cell (p := ⟨go, 1, none⟩) HG2.out).trans y1b
       have v2b_ := (HB3b.out.cell (p := ⟨go, 2, none⟩) HG2.out).trans y2b
       clear hS3 hb3 hbw hbd)
    | (go_simp; go_at_call 51
       refine (newRange.calls k fq b2 e2 A4 ys.length c4 _ (HG.out.below (below_step HBW.out HB3b.out)) (HE2.out) (by rw [HL2.out]; exact HRS2.out)).mono ?_
       rintro ex wn2 ⟨nd, rfl, rfl⟩
       have hp : ((wq2.drewN nd).alloc (Obj.cells #[.pointer (some ⟨fq, 0, none⟩), .int .u64 b2, .int .u64 e2, .slice A4 ys.length c4] 148)).heap[wq2.heap.size]? = some (Obj.cells #[.pointer (some ⟨fq, 0, none⟩), .int .u64 b2, .int .u64 e2, .slice A4 ys.length c4] 148) := blk_new (wq2.drewN nd) _
       have hbn : Below wn.heap.size wn ((wq2.drewN nd).alloc (Obj.cells #[.pointer (some ⟨fq, 0, none⟩), .int .u64 b2, .int .u64 e2, .slice A4 ys.length c4] 148)) := below_alloc (pw_below_drewN HB3b.out nd) _
       have hSn := Kd.S_alloc (Kd.S_drewN HS3b.out nd) (Obj.cells #[.pointer (some ⟨fq, 0, none⟩), .int .u64 b2, .int .u64 e2, .slice A4 ys.length c4] 148)
       have hpp : wn.heap.size ≤ wq2.heap.size := below_size HB3b.out
       generalize (wq2.drewN nd).alloc (Obj.cells #[.pointer (some ⟨fq, 0, none⟩), .int .u64 b2, .int .u64 e2, .slice A4 ys.length c4] 148) = wn2 at hp hbn hSn ⊢
       generalize wq2.heap.size = py at hp hpp ⊢
       have HPb := Aside0.mk hp
       have HBNb := Aside0.mk hbn
       have HSNb := Aside0.mk hSn
       have HPPb := Aside0.mk hpp
       have u0b_ := (HBNb.out.cell (p := ⟨go, 0, none⟩) HG2.out).trans y0b
       have u1b_ := (HBNb.out.cell (p := ⟨go, 1, none⟩) HG2.out).trans y1b
       have u2b_ := (HBNb.out.cell (p := ⟨go, 2, none⟩) HG2.out).trans y2b
       clear hp hbn hSn hpp)
    | fail)
  go_wp2_with (fail)
  have hqn := blk_new wn2 (Obj.cells #[Value.slice none 0 0] 36)
  have hba : Below wn.heap.size wn (wn2.alloc (Obj.cells #[Value.slice none 0 0] 36)) := below_alloc HBNb.out _
  have HBQ := Aside0.mk hba
  have HPX := Aside0.mk (blk_below HP.out hba)
  have HPY := Aside0.mk (blk_alloc HPb.out (Obj.cells #[Value.slice none 0 0] 36))
  have HSX := Aside0.mk (Kd.S_below HSN.out hba)
  have HSY := Aside0.mk (Kd.S_alloc HSNb.out (Obj.cells #[Value.slice none 0 0] 36))
  have HFQ := Aside0.mk (blk_below BF2.out hba)
  have HRQ := Aside0.mk (blk_below BR2.out hba)
  have hqs : w.heap.size ≤ wn2.heap.size := Nat.le_trans HBW.out.size HBNb.out.size
  generalize wn2.alloc (Obj.cells #[Value.slice none 0 0] 36) = Wq at hqn hba HBQ HPX HPY HSX HSY HFQ HRQ ⊢
  generalize wn2.heap.size = q at hqn hqs ⊢
  have HQS := Aside0.mk hqs
  clear hqs u0b_ u1b_ u2b_ v0b_ v1b_ v2b_ y0b y1b y2b HB3b HS3b HBNb HSNb HPb BF2 BR2 hba HR2
  obtain ⟨ss, hsl, hRw, hTx⟩ := rows_SH (Kd.S_R HSX.out)
  obtain ⟨st, htl, hRt, hTt⟩ := rows_SH (Kd.S_R HSY.out)
  have hap : ∀ g, (Value.slice A4 st.length c4).ownBlock = some g → some g ≠ (Value.slice A3 ss.length c3).ownBlock := fun g hk e => by
    have h1 := Kd.S_base HSY.out g (by rw [own_at A4 ys.length st.length c4 c4]; exact hk)
    have h2 := Kd.S_lt HSN.out g (by rw [own_at A3 xs.length ss.length c3 c3]; exact e.symm)
    omega
  have HRG := Aside0.mk (show RgAt Wq w.heap.size p fq a0 a1 a2 a3 a4 a5 b e A3 c3 ss xs from ⟨by rw [hsl]; exact HPX.out, HFQ.out, by rw [hsl]; exact hRw, hsl, hTx⟩)
  have HY := Aside0.mk (show Rw Wq w.heap.size (.slice A4 st.length c4) st by rw [htl]; exact Kd.R_lower hRt HBW.out.size)
  have HYT := Aside0.mk (show ∀ (j : Nat) (s : SH) (x : List Int), st[j]? = some s → ys[j]? = some x → Txt w.heap.size Wq s x from fun j s x h1 h2 => Txt.of_R (hTt j s x h1 h2) HBW.out.size)
  have HPY2 := Aside0.mk (show Wq.heap[py]? = some (.cells #[.pointer (some ⟨fq, 0, none⟩), .int .u64 b2, .int .u64 e2, .slice A4 st.length c4] 148 (0, 0)) by rw [htl]; exact HPY.out)
  have HXP := Aside0.mk (show py ≠ p by have := blk_lt HP.out; have := HPPb.out; omega)
  have HTL := Aside0.mk htl
  have HAP := Aside0.mk hap
  have HQ := Aside0.mk hqn
  have HBF := Aside0.mk (below_step HBW.out HBQ.out)
  have HPW := Aside0.mk (show w.heap.size ≤ p ∧ w.heap.size ≤ py from ⟨Nat.le_trans (Nat.le_refl _) (Nat.le_trans HB_.out HPP.out), Nat.le_trans HBW.out.size HPPb.out⟩)
  clear hsl htl hRw hRt hTx hTt hap hqn HSX HSY HPY HPX HP HSN HBW HBQ HFQ HPP HPPb
  have h := HH.out
  clear HH
  by_cases heq : b2 = e
  · subst heq
    rw [if_pos rfl] at h
    obtain ⟨⟨en, zs, V⟩, hap, h⟩ := Option.bind_eq_some_iff.mp h
    obtain ⟨rr, hrr, h⟩ := Option.bind_eq_some_iff.mp h
    have h := Option.some.inj h
    simp only [Prod.mk.injEq] at h
    obtain ⟨rfl, rfl, rfl, rfl, rfl⟩ := h
    obtain ⟨E, rfl⟩ : ∃ E : Nat, b2 = (E : Int) := ⟨b2.toNat, by have := HE.out; have := HB0.out; omega⟩
    have HRR := Aside0.mk hrr
    have HXA := Aside0.mk hap
    clear hap hrr
    refine (rangeApp.calls k a0 a1 a2 a3 a4 a5 w.heap.size p py fq q b e2 E A3 c3 ss xs (.slice none 0 0) A4 c4 st ys Wq en zs V (HG.out.below HBF.out) HBF.out.size HRG.out HQ.out (Kd.S_nil _ _ _ _ _) (by have := H64.out; omega) HPY2.out HXP.out HY.out HTL.out HYT.out HAP.out HXA.out).mono ?_
    rintro ex wr ⟨rfl, hA⟩
    obtain ⟨A', c', ss', SV', R', q', S', F, hB', hat⟩ := hA
    have HRG' := Aside0.mk R'
    have HQ' := Aside0.mk q'
    have HRB := Aside0.mk (F.ty HRG.out HQ.out HRQ.out (by decide) (by decide) (by decide) (by decide))
    have HB := Aside0.mk (HBF.out.trans (hB' _ (Nat.le_refl _) HQS.out HPW.out.1))
    obtain ⟨AV, cV, rfl⟩ := Kd.S_slice S'
    have HV := Aside0.mk S'
    clear R' S' F hB' hat HRG HQ HRQ HBF HPY2 HY HYT HAP HXA HXS HYS HRS HRS2
    dsimp only
    go_wp2_with (fail)
    have y0 : wr.cell? ⟨q, 0, none⟩ = some (.slice AV V.length cV) := blk_cell q' 0
    have HQL := Aside0.mk (show q < wr.heap.size from blk_lt HQ'.out)
    have hqg : q ≠ g2 := ty_ne HQ'.out HRB.out (by decide)
    have hqg' : g2 ≠ q := fun e => hqg e.symm
    clear q'
    go_region_held_law (fun w' => w'.cell? ⟨q, 0, none⟩ = some (.slice AV V.length cV)) (first | exact v0_ | exact y0 | go_keep) (first
      | (go_simp; go_at_call 55
         have hbd : Below wr.heap.size wr wr.drew := below_drew (Below.refl _ _)
         refine (fromRange.calls k w.heap.size p fq a0 a1 a2 a3 a4 a5 b _ A' c' ss' zs rr _ (HRG'.out.below hbd) HRR.out).mono ?_
         rintro ex w5 ⟨v5, rfl, hS5, hb5⟩
         have HB5 := Aside0.mk (show Below wr.heap.size wr w5 from below_step hbd hb5)
         have HS5 := Aside0.mk (Kd.S_lower hS5 (Nat.le_trans HB.out.size hbd.size))
         obtain ⟨A5, c5, rfl⟩ := Kd.S_slice hS5
         have v0_ := (HB5.out.cell (p := ⟨q, 0, none⟩) HQL.out).trans y0
         have hbx := blk_below HRB.out HB5.out
         have s0 : w5.cell? ⟨g2, 0, none⟩ = some (.int .u64 0) := blk_cell hbx 0
         have s1 : w5.cell? ⟨g2, 1, none⟩ = some (.int .u64 0) := blk_cell hbx 1
         have s2 : w5.cell? ⟨g2, 2, none⟩ = some (.slice none 0 0) := blk_cell hbx 2
         have z0 := blk_frozen hbx 0
         have z1 := blk_frozen hbx 1
         have z2 := blk_frozen hbx 2
         have HBX := Aside0.mk hbx
         clear hS5 hb5 hbd hbx)
      | fail)
    go_wp2_with (fail)
    have k1 := blk_set HBX.out 0 (.int .u64 b)
    have k2 := blk_set k1 1 (.int .u64 en)
    have k3 := blk_set k2 2 (.slice A5 rr.length c5)
    refine bodyPost_ret (results_ctt rfl _ _ g2 34 #[.int .u64 b, .int .u64 en, .slice A5 rr.length c5] (0, 0) _ rfl k3 Tryd.underlying34 rfl (by kernel_rfl)) rfl ?_
    refine ⟨_, _, rfl, Kd.S_set (Kd.S_set (Kd.S_set HS5.out HBX.out (by decide) _ _) k1 (by decide) _ _) k2 (by decide) _ _, Kd.S_set (Kd.S_set (Kd.S_set (Kd.S_below HV.out HB5.out) HBX.out (by decide) _ _) k1 (by decide) _ _) k2 (by decide) _ _, ?_⟩
    exact (((HB.out.trans (HB5.out.mono HB.out.size)).setCell (p := ⟨g2, 0, none⟩) HW1.out.2.1 _).setCell (p := ⟨g2, 1, none⟩) HW1.out.2.1 _).setCell (p := ⟨g2, 2, none⟩) HW1.out.2.1 _
  · rw [if_neg heq] at h
    have h := Option.some.inj h
    simp only [Prod.mk.injEq] at h
    obtain ⟨rfl, rfl, rfl, rfl, rfl⟩ := h
    refine (appendRangeNo.calls p py fq q b e b2 e2 _ _ Wq HRG.out.cell HPY2.out heq).mono ?_
    rintro ex wr ⟨⟨t, a, rfl⟩, hb⟩
    have hbx := blk_below HRQ.out hb
    have s0 : wr.cell? ⟨g2, 0, none⟩ = some (.int .u64 0) := blk_cell hbx 0
    have s1 : wr.cell? ⟨g2, 1, none⟩ = some (.int .u64 0) := blk_cell hbx 1
    have s2 : wr.cell? ⟨g2, 2, none⟩ = some (.slice none 0 0) := blk_cell hbx 2
    have z0 := blk_frozen hbx 0
    have z1 := blk_frozen hbx 1
    have z2 := blk_frozen hbx 2
    have HBX := Aside0.mk hbx
    have HB := Aside0.mk (HBF.out.trans (hb.mono HBF.out.size))
    clear hbx hb HRG HQ HRQ HBF HPY2 HY HYT HAP HXS HYS HRS HRS2
    dsimp only
    go_wp2_with (fail)
    have k1 := blk_set HBX.out 0 (.int .u64 0)
    have k2 := blk_set k1 1 (.int .u64 0)
    have k3 := blk_set k2 2 (.slice none 0 0)
    refine bodyPost_ret (results_ctt rfl _ _ g2 34 #[.int .u64 0, .int .u64 0, .slice none 0 0] (0, 0) _ rfl k3 Tryd.underlying34 rfl (by kernel_rfl)) rfl ?_
    refine ⟨_, _, rfl, Kd.S_nil _ _ _ _ _, Kd.S_nil _ _ _ _ _, ?_⟩
    exact ((HB.out.setCell (p := ⟨g2, 0, none⟩) HW1.out.2.1 _).setCell (p := ⟨g2, 1, none⟩) HW1.out.2.1 _).setCell (p := ⟨g2, 2, none⟩) HW1.out.2.1 _
end Go.Proofs.YtielnphmcaecdaaDoor.PAll
namespace Go.Proofs.YtielnphmcaecdaaDoor.PAll
open Go.RowKit Go.Proofs.YtielnphmcaecdaaDoorW.PrintWords Go.Proofs.YtielnphmcaecdaaDoorW.PrintLast Go.Proofs.YtielnphmcaecdaaDoorW.PrintMore
attribute [local go_sem] max2_int min2_int max_two min_two max_three min_three max_four min_four   -- for this text's walks alone
set_option linter.unusedVariables false
set_option linter.unusedSimpArgs false
theorem eqA49 (d : Nat) (w : World) (x0 y0 : Int) (x1 y1 : Int) :
    (Op.equalIn (d + 2) 49 (.agg #[.int .u64 x0, .int .u64 x1]) (.agg #[.int .u64 y0, .int .u64 y1])).run Tryd.prog w = .ok (x0 == y0 && (x1 == y1)) w := by
  refine eqA_of Tryd.underlying49 (by kernel_rfl) ?_
  refine eqf_cons (by rfl) (by go_simp; rfl) (by go_simp; rfl) (by go_simp) ?_
  exact eqf_last (by rfl) (by go_simp; rfl) (by go_simp; rfl) (by go_simp)
end Go.Proofs.YtielnphmcaecdaaDoor.PAll
namespace Go.Proofs.YtielnphmcaecdaaDoor.PAll
open Go.IntWalk Go.RowKit Go.Proofs.YtielnphmcaecdaaDoorW.PrintWords Go.Proofs.YtielnphmcaecdaaDoorW.PrintLast Go.Proofs.YtielnphmcaecdaaDoorW.PrintMore
set_option linter.unusedVariables false
attribute [local go_sem high] eqA49
def sameV : List S51 → List S51 → Bool
  | [], [] => true
  | x :: xs, y :: ys => if (x.f0.f0 = y.f0.f0 ∧ x.f0.f1 = y.f0.f1) ∧ ((strOfNums x.f1).toList == (strOfNums y.f1).toList) = true then sameV xs ys else false
  | _, _ => false
theorem sameV_len : ∀ (l m : List S51), l.length ≠ m.length → sameV l m = false
  | [], [], h => absurd rfl h
  | [], _ :: _, _ => rfl
  | _ :: _, [], _ => rfl
  | x :: xs, y :: ys, h => by
    unfold sameV
    split
    · exact sameV_len xs ys (fun e => h (by rw [List.length_cons, List.length_cons, e]))
    · rfl
theorem sameV_self : ∀ (l : List S51), sameV l l = true
  | [] => rfl
  | x :: xs => by unfold sameV; rw [if_pos ⟨⟨rfl, rfl⟩, by simp⟩]; exact sameV_self xs
def spec_SameVisits.f (_ : Nat) (l m : List S51) : Option Bool := some (sameV l m)
theorem spec_SameVisits.mono : ∀ l m k, LeO (spec_SameVisits.f k l m) (spec_SameVisits.f (k + 1) l m) := fun _ _ _ => LeO.refl _
theorem sameV_cons (x y : S51) (xs ys : List S51) : sameV (x :: xs) (y :: ys) = if (x.f0.f0 = y.f0.f0 ∧ x.f0.f1 = y.f0.f1) ∧ ((strOfNums x.f1).toList == (strOfNums y.f1).toList) = true then sameV xs ys else false := rfl
theorem dropRd51 {l : List S51} {i : Nat} (h : i < l.length) : l.drop i = rd_T51 l (i : Int) :: l.drop (i + 1) := by
  rw [List.drop_eq_getElem_cons h]
  congr 1
  show _ = l.getD i z51
  rw [List.getD_eq_getElem?_getD, List.getElem?_eq_getElem h]; rfl
set_option maxHeartbeats 4000000 in
set_option maxRecDepth 100000 in
theorem spec_SameVisits.calls (k : Nat) (A0 : Option Addr) (c0 : Nat) (l : List S51) (A1 : Option Addr) (c1 : Nat) (m : List S51) (r : Bool) (w : World) (hr0 : Kd.C k51 w A0 l.length l) (hc0 : l.length ≤ c0) (hr1 : Kd.C k51 w A1 m.length m) (hc1 : m.length ≤ c1) (h : spec_SameVisits.f k l m = some r) :
    Calls Tryd.prog 22 #[.slice A0 l.length c0, .slice A1 m.length c1] w fun e w' => e = .returned (.bool r) ∧ Drawn0 w w' := by
  obtain rfl : sameV l m = r := Option.some.inj h
  clear h
  by_cases h0 : l.length = m.length
  · have b0 : ((l.length : Int) != (m.length : Int)) = false := bne_eq_false_iff_eq.mpr (by omega)
    have b1 : (l.length != m.length) = false := bne_eq_false_iff_eq.mpr h0
    have HL := Aside0.mk hr0.2.1
    have HR := Aside0.mk hr0
    have HC := Aside0.mk hc0
    have HR' := Aside0.mk hr1
    have HC' := Aside0.mk hc1
    have H0 := Aside0.mk h0
    clear hr0 hc0 hr1 hc1 h0
    go_enter Tryd.func22, Tryd.ntmps22
    go_wp2
    try simp only [Act.put, List.setIfInBounds_toArray, List.set_cons_zero, List.set_cons_succ]
    go_loopg [13] l.length (fun kq v13 w' => ∃ i : Nat, v13 = .int .i64 (i : Int) ∧ Aside0 (i + kq = l.length) ∧ Aside0 (sameV (l.drop i) (m.drop i) = sameV l m) ∧ Drawn0 w w')
    case atStart => exact ⟨0, rfl, ⟨by omega⟩, ⟨by rw [List.drop_zero, List.drop_zero]⟩, by repeat (first | exact Drawn0.refl _ | apply Drawn0.step)⟩
    case round =>
      obtain ⟨i, rfl, HI, HJ, ⟨m1, rfl⟩⟩ := hrel
      cases gk with
      | zero =>
        have ei : i = l.length := by have := HI.out; omega
        subst ei
        have hj := HJ.out
        rw [List.drop_of_length_le (Nat.le_refl _), List.drop_of_length_le (by have := H0.out; omega)] at hj
        have HJ2 := Aside0.mk (show true = sameV l m from hj)
        clear hj
        go_wp2
        go_ret
        exact ⟨by rw [← HJ2.out]; rfl, by repeat (first | exact Drawn0.refl _ | apply Drawn0.step)⟩
      | succ k1 =>
        have hi : i < l.length := by have := HI.out; omega
        have hi' : i < m.length := by have := HI.out; have := H0.out; omega
        have d1 : decide (i < l.length) = true := decide_eq_true hi
        have d2 : decide ((i : Int) < (l.length : Int)) = true := decide_eq_true (by omega)
        have d3 : decide (i < m.length) = true := decide_eq_true hi'
        have d4 : decide ((i : Int) < (m.length : Int)) = true := decide_eq_true (by omega)
        have d5 : (i : Int) < (l.length : Int) := by omega
        have d6 : (i : Int) < (m.length : Int) := by omega
        have d7 : 0 ≤ (i : Int) := by omega
        have hj := HJ.out
        rw [dropRd51 hi, dropRd51 hi'] at hj
        obtain ⟨ad, A1, e1, q1, hx0, hx1, hx2, hl1, hi1⟩ := at_T51 HR.out (i : Int) (by omega) (by omega)
        cases q1
        obtain ⟨ad2, A2, e2, q2, hy0, hy1, hy2, hl2, hi2⟩ := at_T51 HR'.out (i : Int) (by omega) (by omega)
        cases q2
        rw [Int.toNat_natCast] at hx0 hx1 hx2 hy0 hy1 hy2
        have hcv3 := fun m => Kd.C_string (P := Tryd.prog) (A := A1) (c := e1) Tryd.underlying27 Tryd.underlying5 Tryd.underlying9 (Kd.C_drewN hi1 m)
        have hcv4 := fun m => Kd.C_string (P := Tryd.prog) (A := A2) (c := e2) Tryd.underlying27 Tryd.underlying5 Tryd.underlying9 (Kd.C_drewN hi2 m)
        have hcv5 := fun m n => Kd.C_string (P := Tryd.prog) (A := A1) (c := e1) Tryd.underlying27 Tryd.underlying5 Tryd.underlying9 (Kd.C_drewN (Kd.C_drewN hi1 m) n)
        have hcv6 := fun m n => Kd.C_string (P := Tryd.prog) (A := A2) (c := e2) Tryd.underlying27 Tryd.underlying5 Tryd.underlying9 (Kd.C_drewN (Kd.C_drewN hi2 m) n)
        generalize rd_T51 l (i : Int) = x at *
        generalize rd_T51 m (i : Int) = y at *
        have hmx : l.length ≤ 9223372036854775807 := HL.out
        by_cases hn : x.f0.f0 = y.f0.f0 ∧ x.f0.f1 = y.f0.f1
        · by_cases hxy : ((strOfNums x.f1).toList == (strOfNums y.f1).toList) = true
          · have HJ2 : sameV (l.drop (i + 1)) (m.drop (i + 1)) = sameV l m := by
              rw [← hj, sameV_cons, if_pos ⟨hn, hxy⟩]
            have b9 : ((strOfNums x.f1).toList != (strOfNums y.f1).toList) = false := by unfold bne; rw [hxy]; rfl
            have HJ3 := Aside0.mk HJ2
            have b8 : (x.f0.f0 == y.f0.f0 && (x.f0.f1 == y.f0.f1)) = true := by rw [hn.1, hn.2]; simp
            clear hn
            clear hj HJ2 hi hi'
            go_wp2_with (fail)
            go_quiet (fail)
            go_wp2
            go_roundg k1
            case measure => omega
            case rel => exact ⟨i + 1, by first | rfl | (congr 1), ⟨by have := HI.out; omega⟩, HJ3, by repeat (first | exact Drawn0.refl _ | apply Drawn0.step | exact ⟨⟨_, rfl⟩⟩)⟩
          · have HJ2 : sameV l m = false := by
              rw [← hj, sameV_cons, if_neg (fun h => hxy h.2)]
            have b9 : ((strOfNums x.f1).toList != (strOfNums y.f1).toList) = true := by unfold bne; rw [Bool.eq_false_iff.mpr hxy]; rfl
            have HJ3 := Aside0.mk HJ2
            have b8 : (x.f0.f0 == y.f0.f0 && (x.f0.f1 == y.f0.f1)) = true := by rw [hn.1, hn.2]; simp
            clear hn
            clear hj HJ2 hi hi'
            go_wp2_with (fail)
            go_quiet (fail)
            go_wp2
            go_ret
            exact ⟨by rw [HJ3.out]; rfl, by repeat (first | exact Drawn0.refl _ | apply Drawn0.step | exact ⟨⟨_, rfl⟩⟩)⟩
        · have HJ2 : sameV l m = false := by
            rw [← hj, sameV_cons, if_neg (fun h => hn h.1)]
          have HJ3 := Aside0.mk HJ2
          have b8 : (x.f0.f0 == y.f0.f0 && (x.f0.f1 == y.f0.f1)) = false := by
            rcases Bool.eq_false_or_eq_true (x.f0.f0 == y.f0.f0 && (x.f0.f1 == y.f0.f1)) with h | h
            · rw [Bool.and_eq_true, beq_iff_eq, beq_iff_eq] at h; exact absurd h hn
            · exact h
          clear hn
          clear hj HJ2 hi hi'
          go_wp2_with (fail)
          go_quiet (fail)
          go_wp2
          go_ret
          exact ⟨by rw [HJ3.out]; rfl, by repeat (first | exact Drawn0.refl _ | apply Drawn0.step | exact ⟨⟨_, rfl⟩⟩)⟩
  · have hf := sameV_len l m h0
    have b0 : ((l.length : Int) != (m.length : Int)) = true := bne_iff_ne.mpr (by omega)
    have b1 : (l.length != m.length) = true := bne_iff_ne.mpr h0
    have HF := Aside0.mk hf
    clear hf hr0 hr1 h0
    go_enter Tryd.func22, Tryd.ntmps22
    go_wp2
    go_ret
    exact ⟨by rw [HF.out]; rfl, by repeat (first | exact Drawn0.refl _ | apply Drawn0.step)⟩
end Go.Proofs.YtielnphmcaecdaaDoor.PAll
