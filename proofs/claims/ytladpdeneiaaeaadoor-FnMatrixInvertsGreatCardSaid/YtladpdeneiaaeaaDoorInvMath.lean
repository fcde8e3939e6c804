import Derived.Test.YtladpdeneiaaeaaDoorWWords
/-! Two eliminations of a square matrix with the identity beside it do the same steps: plain lists of numbers alone. -/
namespace Go.Proofs.YtladpdeneiaaeaaDoor.Inv
set_option linter.unusedVariables false
abbrev Mat : Type := List (List Int)
def Byte (a : Int) : Prop := 0 ≤ a ∧ a < 256
/-- What the proof wants of products, sums and inverses. -/
structure Fld (M X : Int → Int → Int) (I : Int → Int) : Prop where
  mb : ∀ a b, Byte (M a b)
  xb : ∀ a b, Byte a → Byte b → Byte (X a b)
  m0 : ∀ a, M a 0 = 0
  z0 : ∀ a, M 0 a = 0
  m1 : ∀ a, Byte a → M a 1 = a
  mi : ∀ a, Byte a → a ≠ 0 → M a (I a) = 1
  i1 : I 1 = 1
  x0 : ∀ a, Byte a → X a 0 = a
  xx : ∀ a, Byte a → X a a = 0
section
variable (M X : Int → Int → Int) (I : Int → Int)
def el (W : Mat) (i c : Nat) : Int := (W.getD i []).getD c 0
/-- A row less the multiple of another one that clears a column. -/
def clr (p : List Int) (c : Nat) (row : List Int) : List Int := if row.getD c 0 = 0 then row else List.zipWith (fun x y => X x (M (row.getD c 0) y)) row p
def scl (s : Int) (row : List Int) : List Int := row.map fun x => M x s
def piv (r : Nat) (row : List Int) : List Int := if row.getD r 0 = 1 then row else scl M (I (row.getD r 0)) row
/-- The first row from i on whose entry in a column is not 0. -/
def find (W : Mat) (c : Nat) : Nat → Nat → Nat
  | 0, i => i
  | d + 1, i => if el W i c = 0 then find W c d (i + 1) else i
def swp2 (W : Mat) (r p : Nat) : Mat := (W.set r (W.getD p [])).set p (W.getD r [])
def clrs (p : List Int) (c : Nat) : Nat → Nat → Mat → Mat
  | 0, _, W => W
  | d + 1, i, W => clrs p c d (i + 1) (W.set i (clr M X p c (W.getD i [])))
def clrx (p : List Int) (c r : Nat) : Nat → Nat → Mat → Mat
  | 0, _, W => W
  | d + 1, i, W => clrx p c r d (i + 1) (if i = r then W else W.set i (clr M X p c (W.getD i [])))
def gStage (n r : Nat) (W : Mat) : Option Mat :=
  if find W r (n - r) r = n then none else
    some (clrs M X (piv M I r ((swp2 W r (find W r (n - r) r)).getD r [])) r (n - (r + 1)) (r + 1) ((swp2 W r (find W r (n - r) r)).set r (piv M I r ((swp2 W r (find W r (n - r) r)).getD r []))))
def sStage (n c k : Nat) (W : Mat) : Option Mat :=
  if find W c (n - k) k = n then none else
    some (clrx M X (scl M (I (el (swp2 W k (find W c (n - k) k)) k c)) ((swp2 W k (find W c (n - k) k)).getD k [])) c k n 0 ((swp2 W k (find W c (n - k) k)).set k (scl M (I (el (swp2 W k (find W c (n - k) k)) k c)) ((swp2 W k (find W c (n - k) k)).getD k []))))
def g1 (n : Nat) : Nat → Nat → Mat → Option Mat
  | 0, _, W => some W
  | d + 1, r, W => match gStage M X I n r W with
    | none => none
    | some W' => g1 n d (r + 1) W'
def g2 : Nat → Nat → Mat → Mat
  | 0, _, W => W
  | d + 1, k, W => g2 d (k + 1) (clrs M X (W.getD k []) k k 0 W)
def red (n : Nat) : Nat → Nat → Nat → Mat → Mat × Nat
  | 0, _, k, W => (W, k)
  | d + 1, c, k, W => if k < n then (match sStage M X I n c k W with
    | none => red n d (c + 1) k W
    | some W' => red n d (c + 1) (k + 1) W') else (W, k)
/-- A row cleared by the rows behind it. -/
def T (G : Mat) : Nat → Nat → List Int → List Int
  | 0, _, x => x
  | d + 1, j, x => T G d (j + 1) (clr M X (G.getD j []) j x)
end
/-! ### Lists -/
theorem getD_set {α : Type} (l : List α) (i j : Nat) (x d : α) (h : i < l.length) : (l.set i x).getD j d = if i = j then x else l.getD j d := by
  rw [List.getD_eq_getElem?_getD, List.getD_eq_getElem?_getD, List.getElem?_set]
  by_cases e : i = j
  · subst e; simp [h]
  · simp [e]
theorem set_getD {α : Type} (l : List α) (i : Nat) (d : α) (h : i < l.length) : l.set i (l.getD i d) = l := by
  rw [List.getD_eq_getElem?_getD, List.getElem?_eq_getElem h]
  simp
theorem ext_getD {α : Type} (d : α) {a b : List α} (h : a.length = b.length) (hj : ∀ j, j < a.length → a.getD j d = b.getD j d) : a = b := by
  refine List.ext_getElem h fun i h1 h2 => ?_
  have := hj i h1
  rw [List.getD_eq_getElem?_getD, List.getD_eq_getElem?_getD, List.getElem?_eq_getElem h1, List.getElem?_eq_getElem h2] at this
  exact this
theorem getD_mem {α : Type} (l : List α) (i : Nat) (d : α) (h : i < l.length) : l.getD i d ∈ l := by
  rw [List.getD_eq_getElem?_getD, List.getElem?_eq_getElem h]; exact List.getElem_mem h
theorem zip_getD (f : Int → Int → Int) (a b : List Int) (h : a.length = b.length) (j : Nat) (hj : j < a.length) : (List.zipWith f a b).getD j 0 = f (a.getD j 0) (b.getD j 0) := by
  simp only [List.getD_eq_getElem?_getD, List.getElem?_zipWith, List.getElem?_eq_getElem hj, List.getElem?_eq_getElem (show j < b.length by omega), Option.getD_some]
theorem map_getD (f : Int → Int) (a : List Int) (j : Nat) (hj : j < a.length) : (a.map f).getD j 0 = f (a.getD j 0) := by
  simp only [List.getD_eq_getElem?_getD, List.getElem?_map, List.getElem?_eq_getElem hj, Option.map_some, Option.getD_some]
section
variable {M X : Int → Int → Int} {I : Int → Int}
/-- A row of L bytes. -/
def Rw (L : Nat) (x : List Int) : Prop := x.length = L ∧ ∀ j, j < L → Byte (x.getD j 0)
def Sh (n L : Nat) (W : Mat) : Prop := W.length = n ∧ ∀ i, i < n → Rw L (W.getD i [])
theorem clr_rw (F : Fld M X I) {L c : Nat} {p x : List Int} (hp : Rw L p) (hx : Rw L x) : Rw L (clr M X p c x) := by
  unfold clr
  by_cases h : x.getD c 0 = 0
  · rw [if_pos h]; exact hx
  · rw [if_neg h]
    refine ⟨by rw [List.length_zipWith, hp.1, hx.1, Nat.min_self], fun j hj => ?_⟩
    rw [zip_getD _ _ _ (by rw [hp.1, hx.1]) j (by rw [hx.1]; exact hj)]
    exact F.xb _ _ (hx.2 j hj) (F.mb _ _)
theorem clr_at (F : Fld M X I) {L c : Nat} {p x : List Int} (hp : Rw L p) (hx : Rw L x) {j : Nat} (hj : j < L) : (clr M X p c x).getD j 0 = if x.getD c 0 = 0 then x.getD j 0 else X (x.getD j 0) (M (x.getD c 0) (p.getD j 0)) := by
  unfold clr
  by_cases h : x.getD c 0 = 0
  · rw [if_pos h, if_pos h]
  · rw [if_neg h, if_neg h, zip_getD _ _ _ (by rw [hp.1, hx.1]) j (by rw [hx.1]; exact hj)]
theorem clr_keep (F : Fld M X I) {L c : Nat} {p x : List Int} (hp : Rw L p) (hx : Rw L x) {j : Nat} (hj : j < L) (h0 : p.getD j 0 = 0) : (clr M X p c x).getD j 0 = x.getD j 0 := by
  rw [clr_at F hp hx hj, h0, F.m0, F.x0 _ (hx.2 j hj), ite_self]
theorem clr_gone (F : Fld M X I) {L c : Nat} {p x : List Int} (hp : Rw L p) (hx : Rw L x) (hc : c < L) (h1 : p.getD c 0 = 1) : (clr M X p c x).getD c 0 = 0 := by
  rw [clr_at F hp hx hc, h1, F.m1 _ (hx.2 c hc), F.xx _ (hx.2 c hc)]
  by_cases h : x.getD c 0 = 0
  · rw [if_pos h, h]
  · rw [if_neg h]
theorem scl_rw (F : Fld M X I) {L : Nat} (s : Int) {x : List Int} (hx : Rw L x) : Rw L (scl M s x) := by
  unfold scl
  refine ⟨by rw [List.length_map, hx.1], fun j hj => ?_⟩
  rw [map_getD _ _ j (by rw [hx.1]; exact hj)]
  exact F.mb _ _
theorem scl_at {L : Nat} (s : Int) {x : List Int} (hx : Rw L x) {j : Nat} (hj : j < L) : (scl M s x).getD j 0 = M (x.getD j 0) s := by
  unfold scl; rw [map_getD _ _ j (by rw [hx.1]; exact hj)]
theorem scl_one (F : Fld M X I) {L : Nat} {x : List Int} (hx : Rw L x) : scl M 1 x = x := by
  refine ext_getD 0 (by rw [(scl_rw F 1 hx).1, hx.1]) fun j hj => ?_
  rw [(scl_rw F 1 hx).1] at hj
  rw [scl_at 1 hx hj, F.m1 _ (hx.2 j hj)]
theorem piv_eq (F : Fld M X I) {L r : Nat} {x : List Int} (hx : Rw L x) : piv M I r x = scl M (I (x.getD r 0)) x := by
  unfold piv
  by_cases h : x.getD r 0 = 1
  · rw [if_pos h, h, F.i1, scl_one F hx]
  · rw [if_neg h]
theorem find_le (W : Mat) (c d : Nat) : ∀ i, i ≤ find W c d i ∧ find W c d i ≤ i + d := by
  induction d with
  | zero => exact fun i => ⟨Nat.le_refl _, Nat.le_refl _⟩
  | succ d ih =>
    intro i
    rw [find]
    split
    · have := ih (i + 1); omega
    · omega
theorem find_hit (W : Mat) (c d : Nat) : ∀ i, find W c d i < i + d → el W (find W c d i) c ≠ 0 := by
  induction d with
  | zero => exact fun i h => absurd h (by rw [find]; omega)
  | succ d ih =>
    intro i
    rw [find]
    split
    · rename_i h
      exact fun hl => ih (i + 1) (by omega)
    · rename_i h
      exact fun _ => h
theorem find_miss (W : Mat) (c d : Nat) : ∀ i, find W c d i = i + d → ∀ j, i ≤ j → j < i + d → el W j c = 0 := by
  induction d with
  | zero => exact fun i _ j h1 h2 => absurd h2 (by omega)
  | succ d ih =>
    intro i
    rw [find]
    split
    · rename_i h
      intro hl j h1 h2
      by_cases e : j = i
      · rw [e]; exact h
      · exact ih (i + 1) (by omega) j (by omega) (by omega)
    · intro hl; omega
theorem find_congr {W V : Mat} (c d : Nat) : ∀ i, (∀ j, i ≤ j → j < i + d → W.getD j [] = V.getD j []) → find W c d i = find V c d i := by
  induction d with
  | zero => exact fun i _ => rfl
  | succ d ih =>
    intro i h
    rw [find, find, show el W i c = el V i c by unfold el; rw [h i (Nat.le_refl _) (by omega)], ih (i + 1) (fun j h1 h2 => h j (by omega) (by omega))]
theorem clrs_len (p : List Int) (c d : Nat) : ∀ i W, (clrs M X p c d i W).length = W.length := by
  induction d with
  | zero => exact fun i W => rfl
  | succ d ih => intro i W; rw [clrs, ih, List.length_set]
theorem clrs_at (p : List Int) (c d : Nat) : ∀ i (W : Mat) j, i + d ≤ W.length → (clrs M X p c d i W).getD j [] = if i ≤ j ∧ j < i + d then clr M X p c (W.getD j []) else W.getD j [] := by
  induction d with
  | zero => intro i W j h; rw [clrs, if_neg (by omega)]
  | succ d ih =>
    intro i W j h
    rw [clrs, ih _ _ _ (by rw [List.length_set]; omega), getD_set _ _ _ _ _ (by omega)]
    by_cases e : i = j
    · rw [if_neg (by omega), if_pos e, if_pos (by omega), e]
    · rw [if_neg e]
      by_cases h1 : i + 1 ≤ j ∧ j < i + 1 + d
      · rw [if_pos h1, if_pos (by omega)]
      · rw [if_neg h1, if_neg (by omega)]
theorem clrx_len (p : List Int) (c r d : Nat) : ∀ i W, (clrx M X p c r d i W).length = W.length := by
  induction d with
  | zero => exact fun i W => rfl
  | succ d ih =>
    intro i W
    rw [clrx, ih]
    split
    · rfl
    · rw [List.length_set]
theorem clrx_at (p : List Int) (c r d : Nat) : ∀ i (W : Mat) j, i + d ≤ W.length → (clrx M X p c r d i W).getD j [] = if i ≤ j ∧ j < i + d ∧ j ≠ r then clr M X p c (W.getD j []) else W.getD j [] := by
  induction d with
  | zero => intro i W j h; rw [clrx, if_neg (by omega)]
  | succ d ih =>
    intro i W j h
    rw [clrx, ih _ _ _ (by split; omega; rw [List.length_set]; omega)]
    by_cases hr : i = r
    · rw [if_pos hr]
      by_cases h1 : i + 1 ≤ j ∧ j < i + 1 + d ∧ j ≠ r
      · rw [if_pos h1, if_pos (by omega)]
      · rw [if_neg h1, if_neg (by omega)]
    · rw [if_neg hr, getD_set _ _ _ _ _ (by omega)]
      by_cases e : i = j
      · rw [if_neg (by omega), if_pos e, if_pos (by omega), e]
      · rw [if_neg e]
        by_cases h1 : i + 1 ≤ j ∧ j < i + 1 + d ∧ j ≠ r
        · rw [if_pos h1, if_pos (by omega)]
        · rw [if_neg h1, if_neg (by omega)]
theorem swp2_len (W : Mat) (r p : Nat) : (swp2 W r p).length = W.length := by unfold swp2; rw [List.length_set, List.length_set]
theorem swp2_at (W : Mat) (r p j : Nat) (hr : r < W.length) (hp : p < W.length) : (swp2 W r p).getD j [] = if j = r then W.getD p [] else if j = p then W.getD r [] else W.getD j [] := by
  unfold swp2
  rw [getD_set _ _ _ _ _ (by rw [List.length_set]; exact hp), getD_set _ _ _ _ _ hr]
  by_cases h1 : j = r
  · subst h1
    rw [if_pos rfl, if_pos rfl]
    by_cases h2 : p = j
    · rw [if_pos h2, h2]
    · rw [if_neg h2]
  · rw [if_neg h1, if_neg (show ¬ r = j by omega)]
    by_cases h2 : p = j
    · rw [if_pos h2, if_pos h2.symm]
    · rw [if_neg h2, if_neg (show ¬ j = p by omega)]
theorem swp2_self (W : Mat) (r : Nat) (hr : r < W.length) : swp2 W r r = W := by
  refine ext_getD [] (swp2_len _ _ _) fun j hj => ?_
  rw [swp2_at W r r j hr hr]
  by_cases h : j = r
  · rw [if_pos h, h]
  · rw [if_neg h, if_neg h]
theorem sh_swp {n L r p : Nat} {W : Mat} (h : Sh n L W) (hr : r < n) (hp : p < n) : Sh n L (swp2 W r p) := by
  refine ⟨by rw [swp2_len, h.1], fun i hi => ?_⟩
  rw [swp2_at W r p i (by rw [h.1]; exact hr) (by rw [h.1]; exact hp)]
  split
  · exact h.2 p hp
  · split
    · exact h.2 r hr
    · exact h.2 i hi
theorem sh_set {n L r : Nat} {W : Mat} (h : Sh n L W) (hr : r < n) {x : List Int} (hx : Rw L x) : Sh n L (W.set r x) := by
  refine ⟨by rw [List.length_set, h.1], fun i hi => ?_⟩
  rw [getD_set _ _ _ _ _ (by rw [h.1]; exact hr)]
  split
  · exact hx
  · exact h.2 i hi
/-- What a stage of the one elimination makes, row by row. -/
theorem gStage_some (F : Fld M X I) {n L r q : Nat} {W : Mat} (h : Sh n L W) (hr : r < n) (hqe : find W r (n - r) r = q) (hf : q ≠ n) :
    ∃ W' P, gStage M X I n r W = some W' ∧ W'.length = n ∧ P = scl M (I ((W.getD q []).getD r 0)) (W.getD q []) ∧
      ∀ j, j < n → W'.getD j [] = if j = r then P else if r < j then clr M X P r (if j = q then W.getD r [] else W.getD j []) else W.getD j [] := by
  have hq := find_le W r (n - r) r
  rw [hqe] at hq
  have e1 : (swp2 W r q).getD r [] = W.getD q [] := by rw [swp2_at W r q r (by rw [h.1]; exact hr) (by rw [h.1]; omega), if_pos rfl]
  have e2 : piv M I r ((swp2 W r q).getD r []) = scl M (I ((W.getD q []).getD r 0)) (W.getD q []) := by rw [e1, piv_eq F (h.2 q (by omega))]
  refine ⟨_, _, by unfold gStage; rw [hqe, if_neg hf, e2], ?_, rfl, fun j hj => ?_⟩
  · rw [clrs_len, List.length_set, swp2_len, h.1]
  · rw [clrs_at _ _ _ _ _ _ (by rw [List.length_set, swp2_len, h.1]; omega), getD_set _ _ _ _ _ (by rw [swp2_len, h.1]; exact hr), swp2_at W r q j (by rw [h.1]; exact hr) (by rw [h.1]; omega)]
    by_cases c1 : j = r
    · rw [if_neg (by omega), if_pos c1.symm, if_pos c1]
    · rw [if_neg c1, if_neg (show ¬ r = j by omega), if_neg c1]
      by_cases c2 : r < j
      · rw [if_pos (by omega), if_pos c2]
      · rw [if_neg (by omega), if_neg c2, if_neg (by omega)]
theorem gStage_none {n r : Nat} {W : Mat} (h : find W r (n - r) r = n) : gStage M X I n r W = none := by unfold gStage; rw [if_pos h]
/-- .. and of the other. -/
theorem sStage_some {n L c k q : Nat} {W : Mat} (h : Sh n L W) (hk : k < n) (hqe : find W c (n - k) k = q) (hf : q ≠ n) :
    ∃ W' P, sStage M X I n c k W = some W' ∧ W'.length = n ∧ P = scl M (I ((W.getD q []).getD c 0)) (W.getD q []) ∧
      ∀ j, j < n → W'.getD j [] = if j = k then P else clr M X P c (if j = q then W.getD k [] else W.getD j []) := by
  have hq := find_le W c (n - k) k
  rw [hqe] at hq
  have e1 : (swp2 W k q).getD k [] = W.getD q [] := by rw [swp2_at W k q k (by rw [h.1]; exact hk) (by rw [h.1]; omega), if_pos rfl]
  have e2 : el (swp2 W k q) k c = (W.getD q []).getD c 0 := by unfold el; rw [e1]
  refine ⟨_, _, by unfold sStage; rw [hqe, if_neg hf, e2, e1], ?_, rfl, fun j hj => ?_⟩
  · rw [clrx_len, List.length_set, swp2_len, h.1]
  · rw [clrx_at _ _ _ _ _ _ _ (by rw [List.length_set, swp2_len, h.1]; omega), getD_set _ _ _ _ _ (by rw [swp2_len, h.1]; exact hk), swp2_at W k q j (by rw [h.1]; exact hk) (by rw [h.1]; omega)]
    by_cases c1 : j = k
    · rw [if_neg (by omega), if_pos c1.symm, if_pos c1]
    · rw [if_neg c1, if_neg (show ¬ k = j by omega), if_neg c1, if_pos (by omega)]
theorem sStage_none {n c k : Nat} {W : Mat} (h : find W c (n - k) k = n) : sStage M X I n c k W = none := by unfold sStage; rw [if_pos h]
/-! ### A column without a pivot -/
theorem stays (F : Fld M X I) {n L q c k : Nat} {W W' : Mat} (h : Sh n L W) (hq : q < n) (hL : n ≤ L) (hk : q ≤ k) (hkn : k < n) (hz : ∀ i, q ≤ i → i < n → el W i q = 0) (hs : sStage M X I n c k W = some W') :
    Sh n L W' ∧ ∀ i, q ≤ i → i < n → el W' i q = 0 := by
  have hf : find W c (n - k) k ≠ n := fun e => by rw [sStage_none e] at hs; cases hs
  have hle := find_le W c (n - k) k
  obtain ⟨V, P, h1, h2, h3, h4⟩ := sStage_some (M := M) (X := X) (I := I) h hkn rfl hf
  generalize find W c (n - k) k = p at *
  obtain rfl : V = W' := Option.some.inj (h1.symm.trans hs)
  have hp : p < n := by omega
  have hP : Rw L P := by rw [h3]; exact scl_rw F _ (h.2 p hp)
  have hP0 : P.getD q 0 = 0 := by
    rw [h3, scl_at _ (h.2 p hp) (by omega)]
    rw [show (W.getD p []).getD q 0 = 0 from hz p (by omega) hp, F.z0]
  have hin : ∀ j, j < n → Rw L (if j = p then W.getD k [] else W.getD j []) := fun j hj => by
    split
    · exact h.2 k hkn
    · exact h.2 j hj
  refine ⟨⟨h2, fun j hj => ?_⟩, fun i h5 h6 => ?_⟩
  · rw [h4 j hj]
    split
    · exact hP
    · exact clr_rw F hP (hin j hj)
  · unfold el
    rw [h4 i h6]
    by_cases e : i = k
    · rw [if_pos e]; exact hP0
    · rw [if_neg e, clr_keep F hP (hin i h6) (by omega) hP0]
      split
      · exact hz k hk hkn
      · exact hz i h5 h6
theorem red_zero (F : Fld M X I) {n L q : Nat} (hq : q < n) (hL : n ≤ L) (d : Nat) : ∀ c k (W : Mat), Sh n L W → q ≤ k → (∀ i, q ≤ i → i < n → el W i q = 0) → el (red M X I n d c k W).1 q q = 0 := by
  induction d with
  | zero => exact fun c k W _ _ hz => hz q (Nat.le_refl _) hq
  | succ d ih =>
    intro c k W h hk hz
    rw [red]
    by_cases hkn : k < n
    · rw [if_pos hkn]
      cases hs : sStage M X I n c k W with
      | none => exact ih _ _ _ h hk hz
      | some W' =>
        have := stays F h hq hL hk hkn hz hs
        exact ih _ _ _ this.1 (by omega) this.2
    · rw [if_neg hkn]; exact hz q (Nat.le_refl _) hq
theorem red_sh (F : Fld M X I) {n L : Nat} (d : Nat) : ∀ c k (W : Mat), Sh n L W → Sh n L (red M X I n d c k W).1 := by
  induction d with
  | zero => exact fun c k W h => h
  | succ d ih =>
    intro c k W h
    rw [red]
    by_cases hkn : k < n
    · rw [if_pos hkn]
      by_cases hf : find W c (n - k) k = n
      · rw [sStage_none hf]; exact ih _ _ _ h
      · have hle := find_le W c (n - k) k
        obtain ⟨V, P, h1, h2, h3, h4⟩ := sStage_some (M := M) (X := X) (I := I) h hkn rfl hf
        rw [h1]
        generalize find W c (n - k) k = p at *
        have hP : Rw L P := by rw [h3]; exact scl_rw F _ (h.2 p (by omega))
        refine ih _ _ _ ⟨h2, fun j hj => ?_⟩
        rw [h4 j hj]
        split
        · exact hP
        · refine clr_rw F hP ?_
          split
          · exact h.2 k hkn
          · exact h.2 j hj
    · rw [if_neg hkn]; exact h
/-! ### Both at once -/
theorem T_snoc (G : Mat) (d : Nat) : ∀ j x, T M X G (d + 1) j x = clr M X (G.getD (j + d) []) (j + d) (T M X G d j x) := by
  induction d with
  | zero => exact fun j x => rfl
  | succ d ih =>
    intro j x
    rw [T, ih, show j + 1 + d = j + (d + 1) by omega]
    rfl
theorem T_congr {G H : Mat} (d : Nat) : ∀ j x, (∀ i, j ≤ i → i < j + d → G.getD i [] = H.getD i []) → T M X G d j x = T M X H d j x := by
  induction d with
  | zero => exact fun j x _ => rfl
  | succ d ih =>
    intro j x h
    rw [T, T, h j (Nat.le_refl _) (by omega), ih (j + 1) _ (fun i h1 h2 => h i (by omega) (by omega))]
/-- The two matrices behind r stages. -/
structure Rel (M X : Int → Int → Int) (n L r : Nat) (G S : Mat) : Prop where
  g : Sh n L G
  s : Sh n L S
  low : ∀ i, r ≤ i → i < n → S.getD i [] = G.getD i []
  up : ∀ i, i < r → S.getD i [] = T M X G (r - (i + 1)) (i + 1) (G.getD i [])
  unit : ∀ i, i < n → ∀ j, j < r → el S i j = if i = j then 1 else 0
theorem step_none {n L r : Nat} {G S : Mat} (h : Rel M X n L r G S) (hr : r < n) (hg : gStage M X I n r G = none) (F : Fld M X I) : sStage M X I n r r S = none ∧ ∀ i, r ≤ i → i < n → el S i r = 0 := by
  have hf : find G r (n - r) r = n := by
    by_cases hf : find G r (n - r) r = n
    · exact hf
    · obtain ⟨_, _, h1, _⟩ := gStage_some F h.g hr rfl hf
      rw [h1] at hg; cases hg
  have hf2 : find S r (n - r) r = n := by rw [find_congr r (n - r) r (fun j h1 h2 => h.low j h1 (by omega))]; exact hf
  exact ⟨sStage_none hf2, fun i h1 h2 => find_miss S r (n - r) r (by omega) i h1 (by omega)⟩
theorem step_some (F : Fld M X I) {n L r : Nat} {G G' S : Mat} (hL : n ≤ L) (h : Rel M X n L r G S) (hr : r < n) (hg : gStage M X I n r G = some G') :
    ∃ S', sStage M X I n r r S = some S' ∧ Rel M X n L (r + 1) G' S' ∧ ∀ i, i < r → G'.getD i [] = G.getD i [] := by
  have hf : find G r (n - r) r ≠ n := fun e => by rw [gStage_none e] at hg; cases hg
  have hle := find_le G r (n - r) r
  have hit := find_hit G r (n - r) r (by omega)
  have hS : find S r (n - r) r = find G r (n - r) r := find_congr r (n - r) r (fun j h1 h2 => h.low j h1 (by omega))
  obtain ⟨V, P, h1, h2, h3, h4⟩ := gStage_some F h.g hr rfl hf
  obtain ⟨V2, P2, k1, k2, k3, k4⟩ := sStage_some (M := M) (X := X) (I := I) h.s hr hS hf
  generalize find G r (n - r) r = q at *
  obtain rfl : V = G' := Option.some.inj (h1.symm.trans hg)
  have hq : q < n := by omega
  have eP : P2 = P := by rw [k3, h3, h.low q (by omega) hq]
  subst eP
  have hP : Rw L P2 := by rw [h3]; exact scl_rw F _ (h.g.2 q hq)
  have hP1 : P2.getD r 0 = 1 := by
    rw [h3, scl_at _ (h.g.2 q hq) (by omega)]
    exact F.mi _ ((h.g.2 q hq).2 r (by omega)) hit
  have hP0 : ∀ j, j < r → P2.getD j 0 = 0 := fun j hj => by
    rw [k3, scl_at _ (h.s.2 q hq) (by omega)]
    have := h.unit q hq j hj
    rw [if_neg (by omega)] at this
    rw [show (S.getD q []).getD j 0 = 0 from this, F.z0]
  have hin : ∀ j, j < n → Rw L (if j = q then G.getD r [] else G.getD j []) := fun j hj => by
    split
    · exact h.g.2 r hr
    · exact h.g.2 j hj
  have hin2 : ∀ j, j < n → Rw L (if j = q then S.getD r [] else S.getD j []) := fun j hj => by
    split
    · exact h.s.2 r hr
    · exact h.s.2 j hj
  have hup : ∀ i, i < r → V.getD i [] = G.getD i [] := fun i hi => by
    rw [h4 i (by omega), if_neg (by omega), if_neg (by omega)]
  have hVr : V.getD r [] = P2 := by rw [h4 r hr, if_pos rfl]
  refine ⟨V2, k1, ⟨⟨h2, fun j hj => ?_⟩, ⟨k2, fun j hj => ?_⟩, fun i hi hn => ?_, fun i hi => ?_, fun i hi j hj => ?_⟩, hup⟩
  · rw [h4 j hj]
    split
    · exact hP
    · split
      · exact clr_rw F hP (hin j hj)
      · exact h.g.2 j hj
  · rw [k4 j hj]
    split
    · exact hP
    · exact clr_rw F hP (hin2 j hj)
  · have c1 : ¬ i = r := by omega
    rw [k4 i hn, h4 i hn, if_neg c1, if_neg c1, if_pos (show r < i by omega), h.low r (Nat.le_refl _) hr, h.low i (by omega) hn]
  · by_cases e : i = r
    · subst e
      rw [k4 i hr, if_pos rfl, Nat.sub_self, T, hVr]
    · rw [k4 i (by omega), if_neg e, if_neg (by omega), h.up i (by omega), show r + 1 - (i + 1) = (r - (i + 1)) + 1 by omega, T_snoc, show i + 1 + (r - (i + 1)) = r by omega, hVr, hup i (by omega)]
      rw [T_congr (G := V) (H := G) (r - (i + 1)) (i + 1) _ (fun m m1 m2 => hup m (by omega))]
  · unfold el
    rw [k4 i hi]
    by_cases e : i = r
    · rw [if_pos e]
      by_cases ej : j = r
      · rw [ej, hP1, if_pos e]
      · rw [hP0 j (by omega), if_neg (by omega)]
    · rw [if_neg e]
      by_cases ej : j = r
      · rw [ej, clr_gone F hP (hin2 i hi) (by omega) hP1, if_neg e]
      · rw [clr_keep F hP (hin2 i hi) (by omega) (hP0 j (by omega))]
        by_cases eq : i = q
        · rw [if_pos eq, show (S.getD r []).getD j 0 = _ from h.unit r hr j (by omega), if_neg (by omega), if_neg (by omega)]
        · rw [if_neg eq]; exact h.unit i hi j (by omega)
theorem red_stop {n : Nat} (d c k : Nat) (W : Mat) (h : ¬ k < n) : red M X I n d c k W = (W, k) := by
  cases d with
  | zero => rfl
  | succ d => rw [red, if_neg h]
theorem both (F : Fld M X I) {n L : Nat} (hL : n ≤ L) (d : Nat) : ∀ (e r : Nat) (G S : Mat), r + d = n → d ≤ e → Rel M X n L r G S →
    (g1 M X I n d r G = none → ∃ q, q < n ∧ el (red M X I n e r r S).1 q q = 0) ∧
    (∀ G', g1 M X I n d r G = some G' → ∃ S', (red M X I n e r r S).1 = S' ∧ Rel M X n L n G' S') := by
  induction d with
  | zero =>
    intro e r G S hr he h
    refine ⟨fun hn => by (rw [g1] at hn; cases hn), fun G' hg => ?_⟩
    rw [g1] at hg
    obtain rfl := Option.some.inj hg
    obtain rfl : r = n := by omega
    exact ⟨S, by rw [red_stop _ _ _ _ (by omega)], h⟩
  | succ d ih =>
    intro e r G S hr he h
    obtain ⟨e, rfl⟩ : ∃ e', e = e' + 1 := ⟨e - 1, by omega⟩
    have hrn : r < n := by omega
    rw [g1, red, if_pos hrn]
    cases hg : gStage M X I n r G with
    | none =>
      obtain ⟨h1, h2⟩ := step_none h hrn hg F
      rw [h1]
      exact ⟨fun _ => ⟨r, hrn, red_zero F hrn hL e (r + 1) r S h.s (Nat.le_refl _) h2⟩, fun G' hg' => by cases hg'⟩
    | some G1 =>
      obtain ⟨S1, h1, h2, _⟩ := step_some F hL h hrn hg
      rw [h1]
      exact ih e (r + 1) G1 S1 (by omega) (by omega) h2
theorem g2_len (n d : Nat) : ∀ k (W : Mat), (g2 M X d k W).length = W.length := by
  induction d with
  | zero => exact fun k W => rfl
  | succ d ih => intro k W; rw [g2, ih, clrs_len]
theorem g2_at {n : Nat} (P : Mat) (d : Nat) : ∀ k (W : Mat), k + d = n → W.length = n → (∀ i, i < k → W.getD i [] = T M X P (k - (i + 1)) (i + 1) (P.getD i [])) → (∀ i, k ≤ i → i < n → W.getD i [] = P.getD i []) →
    ∀ i, i < n → (g2 M X d k W).getD i [] = T M X P (n - (i + 1)) (i + 1) (P.getD i []) := by
  induction d with
  | zero =>
    intro k W hk hl h1 h2 i hi
    obtain rfl : k = n := by omega
    exact h1 i hi
  | succ d ih =>
    intro k W hk hl h1 h2 i hi
    rw [g2]
    have hat : ∀ j, (clrs M X (W.getD k []) k k 0 W).getD j [] = if j < k then clr M X (P.getD k []) k (W.getD j []) else W.getD j [] := fun j => by
      rw [clrs_at _ _ _ _ _ _ (by omega), h2 k (Nat.le_refl _) (by omega)]
      by_cases c1 : j < k
      · rw [if_pos (by omega), if_pos c1]
      · rw [if_neg (by omega), if_neg c1]
    refine ih (k + 1) _ (by omega) (by rw [clrs_len, hl]) (fun j hj => ?_) (fun j hj hn => ?_) i hi
    · rw [hat j]
      by_cases e : j = k
      · subst e
        rw [if_neg (by omega), Nat.sub_self, T, h2 j (Nat.le_refl _) (by omega)]
      · rw [if_pos (by omega), h1 j (by omega), show k + 1 - (j + 1) = (k - (j + 1)) + 1 by omega, T_snoc, show j + 1 + (k - (j + 1)) = k by omega]
    · rw [hat j, if_neg (by omega)]
      exact h2 j (by omega) hn
/-- The program's elimination, whole. -/
def gauss (M X : Int → Int → Int) (I : Int → Int) (n : Nat) (W : Mat) : Option Mat :=
  match g1 M X I n n 0 W with
  | none => none
  | some G => some (g2 M X n 0 G)
/-- Both succeed alike, and give the same. -/
theorem same (F : Fld M X I) {n L : Nat} (hL : n ≤ L) {W : Mat} (h : Sh n L W) :
    (gauss M X I n W = none → ∃ q, q < n ∧ el (red M X I n L 0 0 W).1 q q = 0) ∧
    (∀ G, gauss M X I n W = some G → (red M X I n L 0 0 W).1 = G ∧ Sh n L G ∧ ∀ i, i < n → ∀ j, j < n → el G i j = if i = j then 1 else 0) := by
  have hb := both F hL n L 0 W W (by omega) hL ⟨h, h, fun _ _ _ => rfl, fun i hi => absurd hi (by omega), fun i _ j hj => absurd hj (by omega)⟩
  unfold gauss
  cases hg : g1 M X I n n 0 W with
  | none => exact ⟨fun _ => hb.1 hg, fun G hG => by cases hG⟩
  | some G1 =>
    refine ⟨fun hG => (by cases hG), fun G hG => ?_⟩
    obtain rfl := Option.some.inj hG
    obtain ⟨S, h1, h2⟩ := hb.2 G1 hg
    have e : S = g2 M X n 0 G1 := by
      refine ext_getD [] (by rw [g2_len n, h2.s.1, h2.g.1]) fun j hj => ?_
      rw [h2.s.1] at hj
      rw [h2.up j hj, g2_at (n := n) G1 n 0 G1 (by omega) h2.g.1 (fun i hi => absurd hi (by omega)) (fun _ _ _ => rfl) j hj]
    rw [h1, ← e]
    exact ⟨rfl, h2.s, h2.unit⟩
end
end Go.Proofs.YtladpdeneiaaeaaDoor.Inv
