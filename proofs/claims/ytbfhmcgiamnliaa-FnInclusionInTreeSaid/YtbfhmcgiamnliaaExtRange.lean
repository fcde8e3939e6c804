import Derived.Test.YtbfhmcgiamnliaaPAllx1
import Derived.Test.YtbfhmcgiamnliaaPAllx9
import Derived.Outline
import Derived.Deep.QuietTactic
import Derived.BigQuiet
import Derived.Deep.RegionWith
import Derived.StillTailTactics
namespace Go.Proofs.Ytbfhmcgiamnliaa.PAll
open Go.RowKit Go.Proofs.YtbfhmcgiamnliaaW.PrintWords Go.Proofs.YtbfhmcgiamnliaaW.PrintLast Go.Proofs.YtbfhmcgiamnliaaW.PrintMore
set_option linter.unusedVariables false
set_option maxHeartbeats 4000000 in
/-- errors.New: an error that is not nil. -/
theorem errNew.calls (s : ByteArray) (w : World) : Calls Try.prog 36 #[.string s] w fun e w' => ∃ t a, e = .returned (.iface t (.pointer (some a))) ∧ Below w.heap.size w w' := by
  go_enter Try.func36, Try.ntmps36
  go_wp2
  go_ret
  exact ⟨_, _, rfl, by repeat (first | exact Below.refl _ _ | apply below_alloc | apply pw_below_drewN | apply below_drew1)⟩
/-- A range may be made. -/
def Good (a b s : Int) (n : Nat) : Prop := ¬ b < a ∧ (n : Int) = s
/-- What is said of the error: nil exactly if the range may be made. -/
def Told (P : Prop) (v : Value) : Prop := (P ∧ v = .nilIface) ∨ (¬ P ∧ ∃ t q, v = .iface t (.pointer (some q)))
set_option maxHeartbeats 4000000 in
theorem factoryNewRange.calls (k : Nat) (pf : Addr) (a b : Int) (A : Option Addr) (c : Nat) (n : Nat) (w : World) (s : Int) (h : compact_RangeSize.f k a b = some s ∨ b < a) :
    Calls Try.prog 25 #[.pointer (some pf), .int .u64 a, .int .u64 b, .slice A n c] w fun e w' => ∃ p v, e = .returned (.tuple #[p, v]) ∧ Told (Good a b s n) v ∧ Below w.heap.size w w' := by
  by_cases h0 : b < a
  · have b0 : decide (b < a) = true := decide_eq_true h0
    have n0 : ¬ Good a b s n := fun h => h.1 h0
    clear h
    go_enter Try.func25, Try.ntmps25
    go_wp2_with (fail)
    refine (errNew.calls _ _).mono ?_
    rintro e w' ⟨t, q, rfl, hb⟩
    have HB := Aside0.mk hb
    dsimp only
    have T : Told (Good a b s n) (.iface t (.pointer (some q))) := .inr ⟨n0, t, q, rfl⟩
    go_wp2
    go_ret2
    exact ⟨_, _, rfl, T, HB.out⟩
  · have b0 : decide (b < a) = false := decide_eq_false h0
    have hs : compact_RangeSize.f k a b = some s := h.resolve_right h0
    have HS := Aside0.mk hs
    clear h hs
    by_cases h1 : (n : Int) = s
    · have b1 : ((n : Int) != s) = false := bne_eq_false_iff_eq.mpr h1
      have T : Told (Good a b s n) .nilIface := .inl ⟨⟨h0, h1⟩, rfl⟩
      clear h1
      go_enter Try.func25, Try.ntmps25
      go_wp2_with (fail)
      refine (compact_RangeSize.calls k a b s _ HS.out).mono ?_
      rintro e w' ⟨rfl, ⟨nd, rfl⟩⟩
      dsimp only
      go_wp2
      go_ret2
      exact ⟨_, _, rfl, T, by repeat (first | exact Below.refl _ _ | apply below_alloc | apply pw_below_drewN | apply below_drew1)⟩
    · have b1 : ((n : Int) != s) = true := bne_iff_ne.mpr h1
      have n0 : ¬ Good a b s n := fun h => h1 h.2
      have N0 := Aside0.mk n0
      clear h1 n0
      go_enter Try.func25, Try.ntmps25
      go_wp2_with (fail)
      refine (compact_RangeSize.calls k a b s _ HS.out).mono ?_
      rintro e w' ⟨rfl, ⟨nd, rfl⟩⟩
      dsimp only
      go_wp2_with (fail)
      refine (errNew.calls _ _).mono ?_
      rintro e w' ⟨t, q, rfl, hb⟩
      have HB := Aside0.mk ((pw_below_drewN (Below.refl w.heap.size w) nd).trans hb)
      have T : Told (Good a b s n) (.iface t (.pointer (some q))) := .inr ⟨N0.out, t, q, rfl⟩
      dsimp only
      go_wp2
      go_ret2
      exact ⟨_, _, rfl, T, HB.out⟩
/-- What the thin package's NewRange says. -/
def impl_NewRange.f (k : Nat) (a b : Int) (l : List (List Int)) : Option Bool :=
  (impl_texts.f k l).bind fun x => if b < a then some false else (compact_RangeSize.f k a b).bind fun s => some (decide ((x.length : Int) = s))
theorem impl_NewRange.mono : ∀ a0 a1 a2 k, LeO (impl_NewRange.f k a0 a1 a2) (impl_NewRange.f (k + 1) a0 a1 a2) := by
  intro a0 a1 a2 k
  unfold impl_NewRange.f
  refine LeO.bind (impl_texts.mono _ _) (fun _ => ?_)
  refine LeO.ite (LeO.refl _) ?_
  exact LeO.bind (compact_RangeSize.mono _ _ _) (fun _ => LeO.refl _)
set_option maxHeartbeats 8000000 in
set_option maxRecDepth 100000 in
theorem impl_NewRange.calls (k : Nat) (a0 a1 : Int) (A : Option Addr) (c : Nat) (l : List (List Int)) (r : Bool) (w : World) (hr : Kd.C (Kd.slice 5 (Kd.int .u8)) w A l.length l) (hc : l.length ≤ c) (h : impl_NewRange.f k a0 a1 l = some r) :
    Calls Try.prog 14 #[.agg #[.int .u64 a0, .int .u64 a1, .slice A l.length c]] w fun e w' => e = .returned (.bool r) ∧ Below w.heap.size w w' := by
  have HR := Aside0.mk hr
  have HC := Aside0.mk hc
  clear hr hc
  unfold impl_NewRange.f at h
  obtain ⟨x, hx, h⟩ := Option.bind_eq_some_iff.mp h
  have HX := Aside0.mk hx
  obtain ⟨s, hs, hr⟩ : ∃ s, (compact_RangeSize.f k a0 a1 = some s ∨ a1 < a0) ∧ (r = true ↔ Good a0 a1 s x.length) := by
    by_cases h0 : a1 < a0
    · rw [if_pos h0] at h
      obtain rfl := Option.some.inj h
      exact ⟨0, .inr h0, ⟨fun h => (by cases h), fun h => absurd h0 h.1⟩⟩
    · rw [if_neg h0] at h
      obtain ⟨s, hs, h⟩ := Option.bind_eq_some_iff.mp h
      obtain rfl := Option.some.inj h
      exact ⟨s, .inl hs, ⟨fun h => ⟨h0, of_decide_eq_true h⟩, fun h => decide_eq_true h.2⟩⟩
  have HS := Aside0.mk hs
  have HV := Aside0.mk hr
  clear h hx hs hr
  go_enter Try.func14, Try.ntmps14
  go_wp2
  obtain ⟨W0, hW0⟩ : ∃ W0, ((w.alloc (Obj.cells #[.int .u64 a0, .int .u64 a1, .slice A l.length c] 34)).alloc (Obj.cells #[.func (Fn.func 24) #[.agg #[.int .i64 0, .int .i64 0, .int .i64 0, .int .u64 0, .int .u64 0, .int .u64 0]] #[]] 52)) = W0 := ⟨_, rfl⟩
  rw [hW0]
  have bk : W0.heap[w.heap.size]? = some (.cells #[.int .u64 a0, .int .u64 a1, .slice A l.length c] 34 (0, 0)) := by rw [← hW0]; exact blk_alloc (blk_new w _) _
  have y0 : W0.cell? ⟨w.heap.size, 0, none⟩ = some (.int .u64 a0) := blk_cell bk 0
  have y1 : W0.cell? ⟨w.heap.size, 1, none⟩ = some (.int .u64 a1) := blk_cell bk 1
  have y2 : W0.cell? ⟨w.heap.size, 2, none⟩ = some (.slice A l.length c) := blk_cell bk 2
  have HB := Aside0.mk (show Below w.heap.size w W0 by rw [← hW0]; exact below_alloc (below_alloc (Below.refl _ _) _) _)
  clear hW0
  have hlt : w.heap.size < W0.heap.size := (Array.getElem?_eq_some_iff.1 bk).1
  have HLT := Aside0.mk hlt
  clear hlt bk
  go_region_with (first
    | (go_at_call 20; refine (impl_texts.calls k A c l x _ ?s1 ?s2 HX.out).mono ?_; (case s1 => exact Kd.C_below HR.out (by repeat (first | exact HB.out | apply pw_below_drewN | apply below_drew1))); (case s2 => exact HC.out); rintro e w3 ⟨v3, rfl, hS3, hb⟩; have HB3 := Aside0.mk (Below.trans (by repeat (first | exact HB.out | apply pw_below_drewN | apply below_drew1)) (hb.mono (Nat.le_of_lt HLT.out))); have y0' := (hb.cell (p := ⟨w.heap.size, 0, none⟩) HLT.out).trans y0; have y1' := (hb.cell (p := ⟨w.heap.size, 1, none⟩) HLT.out).trans y1; have y2' := (hb.cell (p := ⟨w.heap.size, 2, none⟩) HLT.out).trans y2; obtain ⟨Ax, cx, rfl⟩ := Kd.S_slice hS3; clear hS3 hb)
    | (go_at_call 25; refine (factoryNewRange.calls k ⟨w.heap.size + 1, 0, none⟩ a0 a1 Ax cx x.length _ s HS.out).mono ?_; rintro e w4 ⟨pv, v, rfl, T, hb⟩; have HB4 := Aside0.mk (Below.trans (by repeat (first | exact HB3.out | apply pw_below_drewN | apply below_drew1)) (hb.mono HB3.out.size)); clear hb))
  all_goals
    rcases T with ⟨hg, rfl⟩ | ⟨hg, t, q, rfl⟩
    · have e1 := HV.out.mpr hg
      subst e1
      clear HV hg
      go_wp2
      go_ret
      exact ⟨rfl, by repeat (first | exact HB4.out | apply pw_below_drewN | apply below_drew1)⟩
    · have e1 : r = false := by
        cases r with
        | false => rfl
        | true => exact absurd (HV.out.mp rfl) hg
      subst e1
      clear HV hg
      go_wp2
      go_ret
      exact ⟨rfl, by repeat (first | exact HB4.out | apply pw_below_drewN | apply below_drew1)⟩
end Go.Proofs.Ytbfhmcgiamnliaa.PAll
