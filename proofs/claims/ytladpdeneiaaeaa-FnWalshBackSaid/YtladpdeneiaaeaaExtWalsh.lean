import Derived.Test.YtladpdeneiaaeaaPAllx1
import Derived.Test.YtladpdeneiaaeaaWKept
import Derived.Outline
import Derived.Deep.QuietTactic
import Derived.BigQuiet
namespace Go.Proofs.Ytladpdeneiaaeaa.PAll
open Go.RowKit Go.Proofs.YtladpdeneiaaeaaW.PrintWords Go.Proofs.YtladpdeneiaaeaaW.PrintLast Go.Proofs.YtladpdeneiaaeaaW.PrintMore
set_option linter.unusedVariables false
/-- The two halves of a butterfly. -/
def ad (a0 a1 : Int) : Int := ((IntKind.u64.wrap ((IntKind.u64.wrap ((IntKind.u64.wrap (a0)) + (IntKind.u64.wrap (a1)))) + ((IntKind.u64.wrap ((IntKind.u64.wrap (a0)) + (IntKind.u64.wrap (a1)))) / 256))) % 256)
def sb (a0 a1 : Int) : Int := ((IntKind.u64.wrap ((IntKind.u64.wrap ((IntKind.u64.wrap (a0)) - (IntKind.u64.wrap (a1)))) + ((IntKind.u64.wrap ((IntKind.u64.wrap (a0)) - (IntKind.u64.wrap (a1)))) / 256))) % 256)
theorem fw (a b : Int) (w : World) : Calls Try.prog 8 #[.int .u8 a, .int .u8 b] w fun e w' => e = .returned (.tuple #[.int .u8 (ad a b), .int .u8 (sb a b)]) ∧ Drawn0 w w' :=
  reedsolomon_fwht2alt8.calls a b (ad a b) (sb a b) w rfl
def cells (l : List Int) : Array Value := (l.map (Value.int .u8)).toArray
def at_ (l : List Int) (i : Nat) : Int := l.getD i 0
/-- One round of the inmost loop, at place o with the distance d. -/
def bf (d o : Nat) (l : List Int) : List Int :=
  let t0 := at_ l o
  let t1 := at_ l (o + d)
  let t2 := at_ l (o + d * 2)
  let t3 := at_ l (o + d * 3)
  (((l.set o (ad (ad t0 t1) (ad t2 t3))).set (o + d) (ad (sb t0 t1) (sb t2 t3))).set (o + d * 2) (sb (ad t0 t1) (ad t2 t3))).set (o + d * 3) (sb (sb t0 t1) (sb t2 t3))
def inner (d : Nat) : Nat → Nat → List Int → List Int
  | 0, _, l => l
  | n + 1, o, l => inner d n (o + 1) (bf d o l)
def blocks (d : Nat) : Nat → Nat → List Int → List Int
  | 0, _, l => l
  | q + 1, r, l => blocks d q (r + 4 * d) (inner d d r l)
def levels : Nat → Nat → List Int → List Int
  | 0, _, l => l
  | n + 1, d, l => levels n (4 * d) (blocks d (64 / d) 0 l)
def wht (l : List Int) : List Int := levels 4 1 l
structure Only (b : Nat) (w w' : World) : Prop where
  os : w'.os = w.os
  tape : w'.tape = w.tape
  output : w'.output = w.output
  size : w.heap.size = w'.heap.size
  block : ∀ i, i ≠ b → w'.heap[i]? = w.heap[i]?
theorem Only.refl (b : Nat) (w : World) : Only b w w := ⟨rfl, rfl, rfl, rfl, fun _ _ => rfl⟩
theorem Only.drewN {b : Nat} {w w' : World} (h : Only b w w') (n : Nat) : Only b w (w'.drewN n) := ⟨h.os, h.tape, h.output, h.size, h.block⟩
theorem Only.set {b : Nat} {w w' : World} (h : Only b w w') (j : Nat) (v : Value) : Only b w (w'.setCell ⟨b, j, none⟩ v) :=
  ⟨h.os, h.tape, h.output, by simpa [World.setCell] using h.size, fun i hi => (Below.heap_setCell w' ⟨b, j, none⟩ v i hi).trans (h.block i hi)⟩
theorem Only.trans {b : Nat} {w w' w'' : World} (h : Only b w w') (k : Only b w' w'') : Only b w w'' :=
  ⟨k.os.trans h.os, k.tape.trans h.tape, k.output.trans h.output, h.size.trans k.size, fun i hi => (k.block i hi).trans (h.block i hi)⟩
theorem cells_at {l : List Int} {i : Nat} (h : i < l.length) : (cells l)[i]? = some (.int .u8 (at_ l i)) := by
  unfold cells at_
  rw [List.getElem?_toArray, List.getElem?_map, List.getElem?_eq_getElem h, List.getD_eq_getElem?_getD, List.getElem?_eq_getElem h]; rfl
theorem cells_set (l : List Int) (i : Nat) (x : Int) : (cells l).setIfInBounds i (.int .u8 x) = cells (l.set i x) := by
  unfold cells
  rw [List.setIfInBounds_toArray, List.map_set]
def Bs (l : List Int) : Prop := l.length = 256 ∧ ∀ x ∈ l, 0 ≤ x ∧ x ≤ 255
theorem Bs.at {l : List Int} (h : Bs l) (i : Nat) : 0 ≤ at_ l i ∧ at_ l i ≤ 255 := by
  unfold at_
  by_cases hi : i < l.length
  · rw [List.getD_eq_getElem?_getD, List.getElem?_eq_getElem hi]; exact h.2 _ (List.getElem_mem hi)
  · rw [List.getD_eq_getElem?_getD, List.getElem?_eq_none (by omega)]; decide
theorem ad_range (a b : Int) : 0 ≤ ad a b ∧ ad a b ≤ 255 := by unfold ad; generalize IntKind.u64.wrap _ = z; omega
theorem sb_range (a b : Int) : 0 ≤ sb a b ∧ sb a b ≤ 255 := by unfold sb; generalize IntKind.u64.wrap _ = z; omega
theorem Bs.set {l : List Int} (h : Bs l) (i : Nat) {x : Int} (hx : 0 ≤ x ∧ x ≤ 255) : Bs (l.set i x) := by
  refine ⟨by rw [List.length_set]; exact h.1, fun y hy => ?_⟩
  rcases List.mem_or_eq_of_mem_set hy with h1 | h1
  · exact h.2 y h1
  · rw [h1]; exact hx
theorem Bs.bf {l : List Int} (h : Bs l) (d o : Nat) : Bs (bf d o l) :=
  (((h.set _ (ad_range _ _)).set _ (ad_range _ _)).set _ (sb_range _ _)).set _ (sb_range _ _)
theorem u16w (n : Nat) (h : n < 65536) : IntKind.u16.wrap (n : Int) = (n : Int) := by
  have e : ∀ x : Int, IntKind.u16.wrap x = x % 65536 := fun x => by simp [IntKind.wrap, IntKind.bits, IntKind.signed]
  rw [e]; omega
set_option maxHeartbeats 4000000 in
set_option maxRecDepth 100000 in
theorem fwht8.calls (w : World) (b : Nat) (l : List Int) (hl : Bs l) (hb : w.heap[b]? = some (.cells (cells l) 29 (0, 0))) :
    Calls Try.prog 7 #[.pointer (some ⟨b, 0, none⟩), .int .i64 256] w fun e w' => e = .returned (.tuple #[]) ∧ w'.heap[b]? = some (.cells (cells (wht l)) 29 (0, 0)) ∧ Bs (wht l) ∧ Only b w w' := by
  have HL := Aside0.mk hl
  have HB := Aside0.mk hb
  clear hl hb
  go_enter Try.func7, Try.ntmps7
  go_wp2
  try simp only [Act.put, List.setIfInBounds_toArray, List.set_cons_zero, List.set_cons_succ]
  go_loopg [4, 5] 4 (fun kq v4 v5 w' => ∃ (d : Nat) (l1 : List Int), v4 = .int .i64 (d : Int) ∧ v5 = .int .i64 (4 * (d : Int)) ∧ Aside0 (d * 4 ^ kq = 256) ∧ Aside0 (1 ≤ d) ∧ Aside0 (levels kq d l1 = wht l) ∧ Aside0 (Bs l1) ∧ Aside0 (w'.heap[b]? = some (.cells (cells l1) 29 (0, 0))) ∧ Aside0 (Only b w w'))
  case atStart => exact ⟨1, l, rfl, rfl, ⟨rfl⟩, ⟨Nat.le_refl _⟩, ⟨rfl⟩, HL, HB, ⟨Only.refl _ _⟩⟩
  case round =>
    clear HL HB
    obtain ⟨d, l1, rfl, rfl, HD, HD1, HT, HL, HB, HO⟩ := hrel
    cases gk with
    | zero =>
      have e : d = 256 := by have := HD.out; omega
      subst e
      go_wp2
      first | go_end0 | ((try simp only [Exit.inBlock, Exit.then]); refine bodyPost_ret (results_none rfl _ _ _) rfl ?_)
      exact ⟨rfl, by rw [HB.out]; have := HT.out; rw [← this]; rfl, by have := HT.out; rw [← this]; exact HL.out, HO.out⟩
    | succ k1 =>
      have h64 : d ≤ 64 := by
        have := HD.out
        rw [Nat.pow_succ, ← Nat.mul_assoc] at this
        have h4 : 1 ≤ 4 ^ k1 := Nat.pos_of_ne_zero (by simp)
        have h5 : d * 1 ≤ d * 4 ^ k1 := Nat.mul_le_mul_left d h4
        omega
      have c1 : decide (4 * (d : Int) ≤ 256) = true := decide_eq_true (by omega)
      obtain ⟨q, hq⟩ : ∃ q, d * q = 64 := ⟨4 ^ k1, by have := HD.out; rw [Nat.pow_succ, ← Nat.mul_assoc] at this; omega⟩
      have HQ : Aside0 (blocks d q 0 l1 = blocks d (64 / d) 0 l1) := ⟨by rw [← hq, Nat.mul_div_cancel_left _ HD1.out]⟩
      go_wp2
      try simp only [Act.put, List.setIfInBounds_toArray, List.set_cons_zero, List.set_cons_succ]
      go_loopg [6] q (fun kq v6 w' => ∃ (r : Nat) (l2 : List Int), v6 = .int .i64 (r : Int) ∧ Aside0 (r + 4 * d * kq = 256) ∧ Aside0 (blocks d kq r l2 = blocks d (64 / d) 0 l1) ∧ Aside0 (Bs l2) ∧ Aside0 (w'.heap[b]? = some (.cells (cells l2) 29 (0, 0))) ∧ Aside0 (Only b w w'))
      case atStart => exact ⟨0, l1, rfl, ⟨by rw [Nat.mul_assoc, hq]⟩, HQ, HL, HB, HO⟩
      case round =>
        clear HL HB HO HQ
        obtain ⟨r, l2, rfl, HR, HQ, HL, HB, HO⟩ := hrel
        cases gk with
        | zero =>
          have e : r = 256 := by have := HR.out; omega
          subst e
          go_wp2
          go_roundg k1
          case measure => omega
          case rel =>
            refine ⟨4 * d, l2, by congr 1, by congr 1; omega, ⟨by have := HD.out; rw [Nat.pow_succ] at this; rw [← this]; ac_rfl⟩, ⟨by have := HD1.out; omega⟩, ⟨?_⟩, HL, HB, HO⟩
            have h1 := HQ.out
            have h2 := HT.out
            rw [← h2]
            show levels k1 (4 * d) l2 = levels k1 (4 * d) (blocks d (64 / d) 0 l1)
            rw [← h1]; rfl
        | succ k2 =>
          have hr : r + 4 * d ≤ 256 := by have := HR.out; rw [Nat.mul_succ] at this; generalize 4 * d * k2 = s at this; omega
          have c2 : decide ((r : Int) < 256) = true := decide_eq_true (by have := HD1.out; omega)
          have e1 : IntKind.u16.wrap (d : Int) = (d : Int) := u16w d (by omega)
          have e2 : IntKind.u16.wrap (r : Int) = (r : Int) := u16w r (by omega)
          go_wp2
          try simp only [Act.put, List.setIfInBounds_toArray, List.set_cons_zero, List.set_cons_succ]
          go_loopg [8, 26] d (fun kq v8 v26 w' => ∃ (o i : Nat) (l3 : List Int), v8 = .int .u16 (o : Int) ∧ v26 = .int .u16 (i : Int) ∧ Aside0 (i + kq = d) ∧ Aside0 (o = r + i) ∧ Aside0 (inner d kq o l3 = inner d d r l2) ∧ Aside0 (Bs l3) ∧ Aside0 (w'.heap[b]? = some (.cells (cells l3) 29 (0, 0))) ∧ Aside0 (Only b w w'))
          case atStart => exact ⟨r, 0, l2, rfl, rfl, ⟨by omega⟩, ⟨rfl⟩, ⟨rfl⟩, HL, HB, HO⟩
          case round =>
            clear HL HB HO
            obtain ⟨o, i, l3, rfl, rfl, HI, HOi, HN, HL, HB, HO⟩ := hrel
            cases gk with
            | zero =>
              have c3 : decide (i < d) = false := decide_eq_false (by have := HI.out; omega)
              go_wp2
              go_roundg k2
              case measure => omega
              case rel =>
                refine ⟨r + 4 * d, l3, by congr 1, ⟨by have := HR.out; rw [Nat.mul_succ] at this; omega⟩, ⟨?_⟩, HL, HB, HO⟩
                have h1 := HN.out
                have h2 := HQ.out
                rw [← h2]
                show _ = blocks d k2 (r + 4 * d) (inner d d r l2)
                rw [← h1]; rfl
            | succ k3 =>
              have hid : i < d := by have := HI.out; omega
              have c3 : decide (i < d) = true := decide_eq_true hid
              have ho : o + d * 3 < 256 := by have := HI.out; have := HOi.out; omega
              have f1 : IntKind.u16.wrap ((o : Int) + (d : Int)) = ((o + d : Nat) : Int) := by rw [← Int.natCast_add]; exact u16w _ (by omega)
              have m2 : IntKind.u16.wrap ((d : Int) * 2) = ((d * 2 : Nat) : Int) := by rw [show (d : Int) * 2 = ((d * 2 : Nat) : Int) by omega]; exact u16w _ (by omega)
              have m3 : IntKind.u16.wrap ((d : Int) * 3) = ((d * 3 : Nat) : Int) := by rw [show (d : Int) * 3 = ((d * 3 : Nat) : Int) by omega]; exact u16w _ (by omega)
              obtain ⟨n1, hn1⟩ : ∃ n1 : Nat, o + d = n1 := ⟨_, rfl⟩
              obtain ⟨p2, hp2⟩ : ∃ n1 : Nat, d * 2 = n1 := ⟨_, rfl⟩
              obtain ⟨p3, hp3⟩ : ∃ n1 : Nat, d * 3 = n1 := ⟨_, rfl⟩
              obtain ⟨n2, hn2⟩ : ∃ n1 : Nat, o + p2 = n1 := ⟨_, rfl⟩
              obtain ⟨n3, hn3⟩ : ∃ n1 : Nat, o + p3 = n1 := ⟨_, rfl⟩
              rw [hn1] at f1
              rw [hp2] at m2
              rw [hp3] at m3
              have f2 : IntKind.u16.wrap ((o : Int) + (p2 : Int)) = (n2 : Int) := by rw [← Int.natCast_add, hn2]; exact u16w _ (by omega)
              have f3 : IntKind.u16.wrap ((o : Int) + (p3 : Int)) = (n3 : Int) := by rw [← Int.natCast_add, hn3]; exact u16w _ (by omega)
              have g0 : IntKind.u16.wrap ((o : Int) + 1) = ((o + 1 : Nat) : Int) := by rw [show (o : Int) + 1 = ((o + 1 : Nat) : Int) by omega]; exact u16w _ (by omega)
              have g1 : IntKind.u16.wrap ((i : Int) + 1) = ((i + 1 : Nat) : Int) := by rw [show (i : Int) + 1 = ((i + 1 : Nat) : Int) by omega]; exact u16w _ (by omega)
              have b0 : o < 256 := by omega
              have b1 : n1 < 256 := by omega
              have b2 : n2 < 256 := by omega
              have b3 : n3 < 256 := by omega
              have hlen := HL.out.1
              obtain ⟨x0, hx0⟩ : ∃ x, at_ l3 o = x := ⟨_, rfl⟩
              obtain ⟨x1, hx1⟩ : ∃ x, at_ l3 n1 = x := ⟨_, rfl⟩
              obtain ⟨x2, hx2⟩ : ∃ x, at_ l3 n2 = x := ⟨_, rfl⟩
              obtain ⟨x3, hx3⟩ : ∃ x, at_ l3 n3 = x := ⟨_, rfl⟩
              have y0 := (blk_cell HB.out o).trans (cells_at (l := l3) (i := o) (by omega))
              have y1 := (blk_cell HB.out n1).trans (cells_at (l := l3) (i := n1) (by omega))
              have y2 := (blk_cell HB.out n2).trans (cells_at (l := l3) (i := n2) (by omega))
              have y3 := (blk_cell HB.out n3).trans (cells_at (l := l3) (i := n3) (by omega))
              rw [hx0] at y0
              rw [hx1] at y1
              rw [hx2] at y2
              rw [hx3] at y3
              have z0 := blk_frozen HB.out o
              have z1 := blk_frozen HB.out n1
              have z2 := blk_frozen HB.out n2
              have z3 := blk_frozen HB.out n3
              go_wp2_with (go_at_call 8; refine (fw _ _ _).mono ?_; rintro e w' ⟨rfl, ⟨nd, rfl⟩⟩)
              go_roundg k3
              case measure => omega
              case rel =>
                have hs0 := (HB.out)
                refine ⟨o + 1, i + 1, bf d o l3, by congr 1, by congr 1, ⟨by have := HI.out; omega⟩, ⟨by have := HOi.out; omega⟩, ⟨?_⟩, ⟨HL.out.bf d o⟩, ⟨?_⟩, ⟨?_⟩⟩
                · rw [← HN.out]; rfl
                · have eb : bf d o l3 = (((l3.set o (ad (ad x0 x1) (ad x2 x3))).set n1 (ad (sb x0 x1) (sb x2 x3))).set n2 (sb (ad x0 x1) (ad x2 x3))).set n3 (sb (sb x0 x1) (sb x2 x3)) := by
                    unfold bf
                    rw [hn1, hp2, hp3, hn2, hn3, hx0, hx1, hx2, hx3]
                  rw [eb]
                  exact blk_put (blk_put (blk_put (blk_put (blk_drewN HB.out _) o _ (cells_set l3 o _)) n1 _ (cells_set _ n1 _)) n2 _ (cells_set _ n2 _)) n3 _ (cells_set _ n3 _)
                · exact ((((HO.out.drewN _).set _ _).set _ _).set _ _).set _ _
end Go.Proofs.Ytladpdeneiaaeaa.PAll
