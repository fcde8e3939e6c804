import Derived.Test.YtladpdeneiaaeaaPAllx2
import Derived.Test.YtladpdeneiaaeaaWalshMath
import Derived.Test.YtladpdeneiaaeaaNum
/-! The law on the Walsh-Hadamard transform, over lists of numbers alone. -/
namespace Go.Proofs.Ytladpdeneiaaeaa.Pure
open Go.RowKit Go.Proofs.Ytladpdeneiaaeaa.Num Go.Proofs.Ytladpdeneiaaeaa.PAll Go.Proofs.YtladpdeneiaaeaaW.PrintWords Go.Proofs.YtladpdeneiaaeaaW.PrintLast
theorem wf8 {a : Int} (h : (Lit.int .u8 a).wf = true) : 0 ≤ a ∧ a ≤ 255 := by
  obtain ⟨n, rfl, hn⟩ := wf_u8 h
  omega
theorem wa {l : List Int} (h : Bs l) : impl_Walsh.f l 256 = some (wht l) := by
  unfold impl_Walsh.f
  rw [if_pos ⟨h.1, rfl, h.2⟩]
theorem in64 {a : Int} (h0 : 0 ≤ a) (h1 : a ≤ 1000) : wrap64 a = a := by
  unfold wrap64; omega
theorem md {a : Int} (h0 : 0 ≤ a) (h1 : a ≤ 600) : laws_mod.f (wrap64 a) = some (a % 255) := by
  unfold laws_mod.f
  rw [in64 h0 (by omega), Int.tmod_eq_emod_of_nonneg h0, in64 (by omega) (by omega), Int.tmod_eq_emod_of_nonneg (by omega)]
  congr 1
  omega
def sm (a b : Int) : Int := (Int.tmod (wrap64 ((wrap64 a) + (wrap64 b))) 255) % 256
theorem sm_eq {a b : Int} (ha : 0 ≤ a ∧ a ≤ 255) (hb : 0 ≤ b ∧ b ≤ 255) : sm a b = (a + b) % 255 := by
  unfold sm
  rw [in64 ha.1 (by omega), in64 hb.1 (by omega), in64 (by omega) (by omega), Int.tmod_eq_emod_of_nonneg (by omega)]
  omega
theorem cg_mod {x y : Int} (h : cg x y) : x % 255 = y % 255 := by unfold cg at h; omega
theorem rd_at (l : List Int) (i : Nat) : rd l (i : Int) = at_ l i := rfl
/-- The second loop: every place is looked at. -/
theorem look {a x y both back : List Int} (ha : Bs a) (hx : Bs x) (hy : Bs y) (hboth : Bs both) (hback : Bs back)
    (h1 : ∀ i, i < 256 → cg (at_ back i) (at_ a i)) (h2 : ∀ i, i < 256 → cg (at_ both i) (at_ x i + at_ y i)) (d : Nat) : ∀ (i k : Nat), i + d = 256 → d < k →
    laws_FnWalshBack.l1 k a x y both back 256 (i : Int) = some true := by
  induction d with
  | zero =>
    intro i k hi hk
    obtain ⟨k, rfl⟩ : ∃ m, k = m + 1 := ⟨k - 1, by omega⟩
    rw [laws_FnWalshBack.l1, if_neg (by omega)]
  | succ d ih =>
    intro i k hi hk
    obtain ⟨k, rfl⟩ : ∃ m, k = m + 1 := ⟨k - 1, by omega⟩
    have hlt : i < 256 := by omega
    have e1 : ((i : Int) + 1) = ((i + 1 : Nat) : Int) := by omega
    have q1 : (i : Int) < (back.length : Int) := by rw [hback.1]; omega
    have q2 : (i : Int) < (a.length : Int) := by rw [ha.1]; omega
    have q3 : (i : Int) < (both.length : Int) := by rw [hboth.1]; omega
    have q4 : (i : Int) < (x.length : Int) := by rw [hx.1]; omega
    have q5 : (i : Int) < (y.length : Int) := by rw [hy.1]; omega
    have b1 := hback.at i
    have b2 := ha.at i
    have b3 := hboth.at i
    have b4 := hx.at i
    have b5 := hy.at i
    have g1 := cg_mod (h1 i hlt)
    have g2 := cg_mod (h2 i hlt)
    rw [laws_FnWalshBack.l1, if_pos (by omega), if_pos (Int.natCast_nonneg i), if_pos q1, rd_at, md b1.1 (by omega), Option.bind_some, if_pos q2, rd_at, md b2.1 (by omega), Option.bind_some, if_pos g1, if_pos q3, rd_at, md b3.1 (by omega), Option.bind_some, if_pos q4, if_pos q5, rd_at, rd_at, in64 b4.1 (by omega), in64 b5.1 (by omega), md (a := at_ x i + at_ y i) (by omega) (by omega), Option.bind_some, if_pos g2, e1, w64 (by omega)]
    exact ih (i + 1) k (by omega) (by omega)
/-- The first loop: the sums are written, and what follows. -/
theorem fill {a b : List Int} (ha : Bs a) (hb : Bs b) (d : Nat) : ∀ (i k : Nat) (s : List Int), i + d = 256 → Bs s → (∀ j, j < i → at_ s j = (at_ a j + at_ b j) % 255) → d + 600 < k →
    laws_FnWalshBack.l0 k a b s 256 (i : Int) = some true := by
  induction d with
  | zero =>
    intro i k s hi hs hj hk
    obtain ⟨k, rfl⟩ : ∃ m, k = m + 1 := ⟨k - 1, by omega⟩
    obtain ⟨k, rfl⟩ : ∃ m, k = m + 1 := ⟨k - 1, by omega⟩
    have wx := ha.wht
    have wy := hb.wht
    have ws := hs.wht
    have wb := wx.wht
    have l1 : (((wht a).length : Int)) = 256 := by rw [wx.1]; rfl
    have l2 : (((wht b).length : Int)) = 256 := by rw [wy.1]; rfl
    have l3 : (((wht s).length : Int)) = 256 := by rw [ws.1]; rfl
    have l4 : (((wht (wht a)).length : Int)) = 256 := by rw [wb.1]; rfl
    have l5 : ((s.length : Int)) = 256 := by rw [hs.1]; rfl
    have hsum : ∀ i, i < 256 → cg (at_ s i) (at_ a i + at_ b i) := fun j h => by
      rw [hj j (by omega)]; unfold cg; omega
    rw [laws_FnWalshBack.l0, if_neg (by omega), wa ha, Option.bind_some, wa hb, Option.bind_some, wa hs, Option.bind_some, wa wx, Option.bind_some, if_pos l1, if_pos l2, if_pos l3, l4]
    show laws_FnWalshBack.j3 (k + 1) _ _ _ _ _ _ false = _
    rw [laws_FnWalshBack.j3, if_neg (by decide), l5]
    exact look ha wx wy ws wb (fun i h => wht_back ha i h) (fun i h => wht_sum ha hb hs hsum i h) 256 0 k (by omega) (by omega)
  | succ d ih =>
    intro i k s hi hs hj hk
    obtain ⟨k, rfl⟩ : ∃ m, k = m + 1 := ⟨k - 1, by omega⟩
    have hlt : i < 256 := by omega
    have e1 : ((i : Int) + 1) = ((i + 1 : Nat) : Int) := by omega
    have q1 : (i : Int) < (a.length : Int) := by rw [ha.1]; omega
    have q2 : (i : Int) < (b.length : Int) := by rw [hb.1]; omega
    have q3 : (i : Int) < (s.length : Int) := by rw [hs.1]; omega
    rw [laws_FnWalshBack.l0, if_pos (by omega), if_pos (Int.natCast_nonneg i), if_pos q1, if_pos q2, if_pos q3, rd_at, rd_at, e1, w64 (by omega)]
    show laws_FnWalshBack.l0 k a b (s.set i (sm (at_ a i) (at_ b i))) 256 ((i + 1 : Nat) : Int) = _
    rw [sm_eq (ha.at i) (hb.at i)]
    refine ih (i + 1) k _ (by omega) (hs.set i (by omega)) (fun j h => ?_) (by omega)
    rw [at_set (by rw [hs.1]; exact hlt)]
    by_cases e : i = j
    · rw [if_pos e, e]
    · rw [if_neg e]; exact hj j (by omega)
theorem FnWalshBack (l0 : List Int) (l1 : List Int) (w0 : l0.length ≤ maxLen ∧ ∀ l0' ∈ l0, (Lit.int .u8 l0').wf = true) (w1 : l1.length ≤ maxLen ∧ ∀ l1' ∈ l1, (Lit.int .u8 l1').wf = true) : ∃ k, laws_FnWalshBack.f k l0 l1 = some true := by
  have j0t : ∀ (k : Nat), laws_FnWalshBack.j0 (k + 1) l0 l1 true = some true := fun k => by
    rw [laws_FnWalshBack.j0, if_pos rfl]
  have j1t : ∀ (k : Nat), laws_FnWalshBack.j1 (k + 1) l0 l1 true = some true := fun k => by
    rw [laws_FnWalshBack.j1, if_pos rfl]
  refine ⟨2002, ?_⟩
  unfold laws_FnWalshBack.f
  by_cases c0 : (l0.length : Int) > 2147483647
  · rw [if_pos c0]; exact j0t 2001
  · rw [if_neg c0]
    by_cases c1 : (l1.length : Int) > 2147483647
    · rw [decide_eq_true c1]; exact j0t 2001
    · rw [decide_eq_false c1]
      show laws_FnWalshBack.j0 (2001 + 1) _ _ _ = _
      rw [laws_FnWalshBack.j0, if_neg (by decide)]
      by_cases c2 : (l0.length : Int) = 256
      · rw [if_pos c2]
        by_cases c3 : (l1.length : Int) = 256
        · rw [c3]
          show laws_FnWalshBack.j1 (2000 + 1) _ _ false = _
          have B0 : Bs l0 := ⟨by omega, fun x hx => wf8 (w0.2 x hx)⟩
          have B1 : Bs l1 := ⟨by omega, fun x hx => wf8 (w1.2 x hx)⟩
          have Bz : Bs (List.replicate 256 (0 : Int)) := ⟨List.length_replicate, fun x hx => by rw [(List.mem_replicate.mp hx).2]; decide⟩
          rw [laws_FnWalshBack.j1, if_neg (by decide), if_pos (by decide), Option.bind_some, List.length_replicate]
          exact fill B0 B1 256 0 2000 _ (by omega) Bz (fun j h => absurd h (by omega)) (by omega)
        · rw [bne_iff_ne.mpr c3]; exact j1t 2000
      · rw [if_neg c2]; exact j1t 2000
end Go.Proofs.Ytladpdeneiaaeaa.Pure
