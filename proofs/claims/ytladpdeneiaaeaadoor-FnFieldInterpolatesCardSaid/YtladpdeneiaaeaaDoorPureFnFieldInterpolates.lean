import Derived.Test.YtladpdeneiaaeaaDoorFieldSpec
import Derived.Test.YtladpdeneiaaeaaDoorPAllx4
import Derived.Test.YtladpdeneiaaeaaDoorPAllx3
import Derived.Test.YtladpdeneiaaeaaDoorPAllx2
import Derived.Test.YtladpdeneiaaeaaDoorPAllx2
/-! The law on interpolation, over numbers alone. -/
namespace Go.Proofs.YtladpdeneiaaeaaDoor.Pure
open Go.RowKit Go.Proofs.YtladpdeneiaaeaaDoor.Num Go.Proofs.YtladpdeneiaaeaaDoor.Fld Go.Proofs.YtladpdeneiaaeaaDoor.PAll Go.Proofs.YtladpdeneiaaeaaDoorW.PrintWords Go.Proofs.YtladpdeneiaaeaaDoorW.PrintLast
/-- A list of bytes as the walk tells it. -/
def I (l : List Nat) : List Int := l.map Int.ofNat
def By (l : List Nat) : Prop := ∀ a ∈ l, a < 256
theorem ints : ∀ {l : List Int}, (∀ x ∈ l, (Lit.int .u8 x).wf = true) → ∃ ns, l = I ns ∧ By ns
  | [], _ => ⟨[], rfl, fun _ h => by cases h⟩
  | y :: l, h => by
    obtain ⟨n, rfl, hn⟩ := wf_u8 (h y (List.mem_cons_self ..))
    obtain ⟨ns, rfl, hb⟩ := ints (l := l) (fun x hx => h x (List.mem_cons_of_mem _ hx))
    refine ⟨n :: ns, rfl, fun a ha => ?_⟩
    rcases List.mem_cons.mp ha with rfl | ha
    · exact hn
    · exact hb a ha
theorem I_len (l : List Nat) : (I l).length = l.length := by simp [I]
theorem rd_I (l : List Nat) (i : Nat) : rd (I l) (i : Int) = ((l.getD i 0 : Nat) : Int) := by
  unfold rd I
  rw [Int.toNat_natCast, getD_map]
theorem I_set (l : List Nat) (i v : Nat) : (I l).set i (v : Int) = I (l.set i v) := by
  unfold I
  rw [List.map_set]; rfl
theorem I_rep (n : Nat) : List.replicate n (0 : Int) = I (List.replicate n 0) := by simp [I]
theorem By.get {l : List Nat} (h : By l) (i : Nat) : l.getD i 0 < 256 := by
  by_cases hi : i < l.length
  · rw [List.getD_eq_getElem?_getD, List.getElem?_eq_getElem hi]; exact h _ (List.getElem_mem hi)
  · rw [List.getD_eq_getElem?_getD, List.getElem?_eq_none (by omega)]; decide
theorem By.set {l : List Nat} (h : By l) (i : Nat) {v : Nat} (hv : v < 256) : By (l.set i v) := by
  intro a ha
  rcases List.mem_or_eq_of_mem_set ha with h1 | h1
  · exact h a h1
  · rw [h1]; exact hv
theorem By.take {l : List Nat} (h : By l) (i : Nat) : By (l.take i) := fun a ha => h a (List.mem_of_mem_take ha)
theorem By.drop {l : List Nat} (h : By l) (i : Nat) : By (l.drop i) := fun a ha => h a (List.mem_of_mem_drop ha)
theorem By.rep (n : Nat) : By (List.replicate n 0) := fun a ha => by rw [(List.mem_replicate.mp ha).2]; decide
theorem By.cons {c : Nat} {l : List Nat} (h : By (c :: l)) : c < 256 ∧ By l := ⟨h c (List.mem_cons_self ..), fun a ha => h a (List.mem_cons_of_mem _ ha)⟩
/-- The value of a polynomial. -/
def ev (x : Nat) : List Nat → Nat
  | [] => 0
  | c :: l => c ^^^ mul (ev x l) x
def pw (x : Nat) : Nat → Nat
  | 0 => 1
  | j + 1 => mul (pw x j) x
theorem ev_lt {x : Nat} : ∀ {l : List Nat}, By l → ev x l < 256
  | [], _ => by show 0 < 256; decide
  | c :: l, h => xor_lt h.cons.1 (mul_lt _ _)
theorem pw_lt (x : Nat) : ∀ j, pw x j < 256
  | 0 => by show 1 < 256; decide
  | j + 1 => mul_lt _ _
theorem ev_rep (x n : Nat) : ev x (List.replicate n 0) = 0 := by
  induction n with
  | zero => rfl
  | succ n ih => show 0 ^^^ mul (ev x (List.replicate n 0)) x = 0; rw [ih, zero_mul]; rfl
theorem ev_set {x : Nat} (hx : x < 256) {c : Nat} (hc : c < 256) : ∀ {l : List Nat} (_ : By l) (j : Nat), j < l.length → ev x (l.set j (l.getD j 0 ^^^ c)) = ev x l ^^^ mul c (pw x j)
  | [], _, j, hj => by simp at hj
  | a :: l, h, 0, _ => by
    show (a ^^^ c) ^^^ mul (ev x l) x = (a ^^^ mul (ev x l) x) ^^^ mul c 1
    rw [mul_one hc]; ac_rfl
  | a :: l, h, j + 1, hj => by
    have hj' : j < l.length := by simpa using hj
    show a ^^^ mul (ev x (l.set j (l.getD j 0 ^^^ c))) x = (a ^^^ mul (ev x l) x) ^^^ mul c (mul (pw x j) x)
    rw [ev_set hx hc h.cons.2 j hj', add_mul (ev_lt h.cons.2) (mul_lt _ _) hx, mul_assoc hc (pw_lt x j) hx, Nat.xor_assoc]
theorem ev_take {x : Nat} (hx : x < 256) : ∀ {l : List Nat} (_ : By l) (j : Nat), j < l.length → ev x (l.take (j + 1)) = ev x (l.take j) ^^^ mul (l.getD j 0) (pw x j)
  | [], _, j, hj => by simp at hj
  | a :: l, h, 0, _ => by
    show a ^^^ mul (ev x (l.take 0)) x = 0 ^^^ mul a 1
    rw [mul_one h.cons.1, Nat.zero_xor, List.take_zero]; exact Nat.xor_zero a
  | a :: l, h, j + 1, hj => by
    have hj' : j < l.length := by simpa using hj
    show a ^^^ mul (ev x (l.take (j + 1))) x = (a ^^^ mul (ev x (l.take j)) x) ^^^ mul (l.getD j 0) (mul (pw x j) x)
    rw [ev_take hx h.cons.2 j hj', add_mul (ev_lt (h.cons.2.take j)) (mul_lt _ _) hx, mul_assoc (h.cons.2.get j) (pw_lt x j) hx, Nat.xor_assoc]
/-- Horner's way. -/
theorem eval_loop {x : Nat} (hx : x < 256) {l : List Nat} (hl : By l) (hn : l.length < 1000) (m : Nat) : ∀ k, m ≤ l.length → m + 100 ≤ k → spec_Eval.l0 k (I l) (x : Int) ((ev x (l.drop m) : Nat) : Int) ((m : Int) - 1) = some ((ev x l : Nat) : Int) := by
  induction m with
  | zero =>
    intro k _ hk
    obtain ⟨k, rfl⟩ : ∃ q, k = q + 1 := ⟨k - 1, by omega⟩
    unfold spec_Eval.l0
    rw [if_neg (by omega)]; rfl
  | succ m ih =>
    intro k hm hk
    obtain ⟨k, rfl⟩ : ∃ q, k = q + 1 := ⟨k - 1, by omega⟩
    have hn' := ih k (by omega) (by omega)
    have e : ev x (l.drop m) = mul (ev x (l.drop (m + 1))) x ^^^ l.getD m 0 := by
      rw [List.drop_eq_getElem_cons (show m < l.length by omega), List.getD_eq_getElem?_getD, List.getElem?_eq_getElem (show m < l.length by omega)]
      show _ ^^^ _ = _ ^^^ _
      exact Nat.xor_comm _ _
    rw [e] at hn'
    rw [← hn']
    conv => lhs; unfold spec_Eval.l0
    rw [show ((m + 1 : Nat) : Int) - 1 = (m : Int) by omega, if_pos (by omega), spec_Mul_eq (ev_lt (hl.drop _)) hx k (by omega), Option.bind_some, if_pos (by omega), I_len, if_pos (by omega), rd_I, Go.u8_xor_nat _ _ (mul_lt _ _) (hl.get m)]
    congr 1
    unfold wrap64; omega
theorem eval_eq {x : Nat} (hx : x < 256) {l : List Nat} (hl : By l) (hn : l.length < 1000) (k : Nat) (hk : 1100 ≤ k) : spec_Eval.f k (I l) (x : Int) = some ((ev x l : Nat) : Int) := by
  unfold spec_Eval.f
  have h := eval_loop hx hl hn l.length k (Nat.le_refl _) (by omega)
  rw [List.drop_length] at h
  rw [I_len, ← h]
  congr 1
  unfold wrap64; omega
/-- The terms of the sum. -/
structure Ask where
  xs : List Nat
  ys : List Nat
  x : Nat
  hxs : By xs
  hys : By ys
  hx : x < 256
  hn : xs.length ≤ 24
  hl : ys.length = xs.length
  hd : ∀ p q, p < xs.length → q < xs.length → p ≠ q → xs.getD p 0 ≠ xs.getD q 0
def Ask.n (a : Ask) : Nat := a.xs.length
def Ask.X (a : Ask) (i : Nat) : Nat := a.xs.getD i 0
theorem Ask.X_lt (a : Ask) (i : Nat) : a.X i < 256 := a.hxs.get i
theorem xor_ne {a b : Nat} (h : a ≠ b) : a ^^^ b ≠ 0 := fun e => h (by
  have : a ^^^ b ^^^ b = 0 ^^^ b := by rw [e]
  rwa [Nat.xor_assoc, Nat.xor_self, Nat.xor_zero, Nat.zero_xor] at this)
theorem Ask.gap (a : Ask) {i j : Nat} (hi : i < a.n) (hj : j < a.n) (h : j ≠ i) : a.X i ^^^ a.X j ≠ 0 := xor_ne (a.hd i j hi hj (Ne.symm h))
theorem Ask.gap_lt (a : Ask) (i j : Nat) : a.X i ^^^ a.X j < 256 := xor_lt (a.X_lt i) (a.X_lt j)
def Ask.tf (a : Ask) (i : Nat) : Nat → Nat
  | 0 => a.ys.getD i 0
  | j + 1 => if j = i then a.tf i j else mul (a.tf i j) (div (a.x ^^^ a.X j) (a.X i ^^^ a.X j))
def Ask.sc (a : Ask) (i : Nat) : Nat → Nat
  | 0 => a.ys.getD i 0
  | j + 1 => if j = i then a.sc i j else mul (a.sc i j) (div 1 (a.X i ^^^ a.X j))
def Ask.bs (a : Ask) (i : Nat) : Nat → Nat
  | 0 => 1
  | j + 1 => if j = i then a.bs i j else mul (a.bs i j) (a.x ^^^ a.X j)
def Ask.S (a : Ask) : Nat → Nat
  | 0 => 0
  | i + 1 => a.S i ^^^ a.tf i a.n
theorem Ask.tf_lt (a : Ask) (i : Nat) : ∀ j, a.tf i j < 256
  | 0 => a.hys.get i
  | j + 1 => by
    unfold Ask.tf
    split
    · exact a.tf_lt i j
    · exact mul_lt _ _
theorem Ask.sc_lt (a : Ask) (i : Nat) : ∀ j, a.sc i j < 256
  | 0 => a.hys.get i
  | j + 1 => by
    unfold Ask.sc
    split
    · exact a.sc_lt i j
    · exact mul_lt _ _
theorem Ask.bs_lt (a : Ask) (i : Nat) : ∀ j, a.bs i j < 256
  | 0 => by show 1 < 256; decide
  | j + 1 => by
    unfold Ask.bs
    split
    · exact a.bs_lt i j
    · exact mul_lt _ _
theorem Ask.S_lt (a : Ask) : ∀ i, a.S i < 256
  | 0 => by show 0 < 256; decide
  | i + 1 => xor_lt (a.S_lt i) (a.tf_lt i _)
theorem mul4 {s b u v : Nat} (hs : s < 256) (hb : b < 256) (hu : u < 256) (hv : v < 256) : mul (mul s b) (mul u v) = mul (mul s v) (mul b u) := by
  rw [mul_assoc hs hb (mul_lt _ _), mul_assoc hs hv (mul_lt _ _), ← mul_assoc hb hu hv, mul_comm (mul b u) v]
theorem Ask.tf_eq (a : Ask) {i : Nat} (hi : i < a.n) : ∀ j, j ≤ a.n → a.tf i j = mul (a.sc i j) (a.bs i j)
  | 0, _ => (mul_one (a.hys.get i)).symm
  | j + 1, hj => by
    unfold Ask.tf Ask.sc Ask.bs
    by_cases h : j = i
    · rw [if_pos h, if_pos h, if_pos h]; exact a.tf_eq hi j (by omega)
    · rw [if_neg h, if_neg h, if_neg h, a.tf_eq hi j (by omega), div_eq (xor_lt a.hx (a.X_lt j)) (a.gap_lt i j) (a.gap hi (by omega) h)]
      exact mul4 (a.sc_lt i j) (a.bs_lt i j) (xor_lt a.hx (a.X_lt j)) (div_lt _ _)
def Ask.Good (a : Ask) (out : List Nat) : Prop := out.length = a.n ∧ By out ∧ ev a.x out = a.S a.n
theorem wadd (m : Nat) (h : m < 1000000) : wrap64 ((m : Int) + 1) = ((m + 1 : Nat) : Int) := by rw [← w64 (n := m + 1) (by omega), Int.natCast_add]; rfl
/-- The sum of the coefficients. -/
theorem Ask.addLoop (a : Ask) {i : Nat} (hi : i < a.n) {b : List Nat} (hb : By b) (hbl : b.length = a.n) (hbe : ev a.x b = a.bs i a.n) (K : Nat) (hK : 1000 ≤ K)
    (hA : ∀ (out : List Nat) (k : Nat), out.length = a.n → By out → ev a.x out = a.S (i + 1) → K ≤ k → ∃ r, spec_Interpolate.l0 k (I a.xs) (I a.ys) (I out) (a.n : Int) ((i + 1 : Nat) : Int) = some (I r) ∧ a.Good r) (g : Nat) :
    ∀ (m : Nat) (out : List Nat) (k : Nat), m + g = a.n → out.length = a.n → By out → ev a.x out = a.S i ^^^ mul (ev a.x (b.take m)) (a.sc i a.n) → K + g + 1 ≤ k →
      ∃ r, spec_Interpolate.l3 k (I a.xs) (I a.ys) (I out) (a.sc i a.n : Int) (a.n : Int) (i : Int) (I b) (a.n : Int) (m : Int) = some (I r) ∧ a.Good r := by
  have h24 : a.n ≤ 24 := a.hn
  induction g with
  | zero =>
    intro m out k hm hol hob hoe hk
    obtain ⟨k, rfl⟩ : ∃ q, k = q + 1 := ⟨k - 1, by omega⟩
    unfold spec_Interpolate.l3
    rw [if_neg (by omega), wadd i (by omega)]
    refine hA out k hol hob ?_ (by omega)
    rw [hoe, List.take_of_length_le (by omega), hbe, mul_comm, ← a.tf_eq hi a.n (Nat.le_refl _)]
    rfl
  | succ g ih =>
    intro m out k hm hol hob hoe hk
    obtain ⟨k, rfl⟩ : ∃ q, k = q + 1 := ⟨k - 1, by omega⟩
    unfold spec_Interpolate.l3
    rw [if_pos (by omega), if_pos (by omega), if_pos (by rw [I_len]; omega), if_pos (by rw [I_len]; omega), rd_I, rd_I, spec_Mul_eq (hb.get m) (a.sc_lt i _) k (by omega), Option.bind_some, Go.u8_xor_nat _ _ (hob.get m) (mul_lt _ _), Int.toNat_natCast, I_set, wadd m (by omega)]
    refine ih (m + 1) _ k (by omega) (by rw [List.length_set]; exact hol) (hob.set m (xor_lt (hob.get m) (mul_lt _ _))) ?_ (by omega)
    rw [ev_set a.hx (mul_lt _ _) hob m (by omega), hoe, ev_take a.hx hb m (by omega), add_mul (ev_lt (hb.take m)) (mul_lt _ _) (a.sc_lt i _), Nat.xor_assoc]
    congr 2
    rw [mul_assoc (hb.get m) (a.sc_lt i _) (pw_lt _ m), mul_assoc (hb.get m) (pw_lt _ m) (a.sc_lt i _), mul_comm (a.sc i a.n)]
/-- A factor more. -/
theorem Ask.timesLoop (a : Ask) {i j : Nat} (hi : i < a.n) (hj : j < a.n) (hji : j ≠ i) {b : List Nat} (hb : By b) (hb25 : b.length ≤ 25) (out : List Nat) (K : Nat) (hK : 1000 ≤ K)
    (hB : ∀ (b' : List Nat) (k : Nat), b'.length = b.length + 1 → By b' → ev a.x b' = mul (ev a.x b) (a.x ^^^ a.X j) → K ≤ k → ∃ r, spec_Interpolate.l1 k (I a.xs) (I a.ys) (I out) (i : Int) (I b') ((mul (a.sc i j) (div 1 (a.X i ^^^ a.X j)) : Nat) : Int) (a.n : Int) (i : Int) (a.n : Int) ((j + 1 : Nat) : Int) = some (I r) ∧ a.Good r) (g : Nat) :
    ∀ (m : Nat) (N : List Nat) (k : Nat), m + g = b.length → N.length = b.length + 1 → By N → ev a.x N = mul (ev a.x (b.take m)) (a.x ^^^ a.X j) → K + g + 1 ≤ k →
      ∃ r, spec_Interpolate.l2 k (I a.xs) (I a.ys) (I out) (i : Int) (a.sc i j : Int) (j : Int) (I N) (a.n : Int) (i : Int) (a.n : Int) (j : Int) (I b) (b.length : Int) (m : Int) = some (I r) ∧ a.Good r := by
  have h24 : a.n ≤ 24 := a.hn
  have hxl : a.xs.length = a.n := rfl
  induction g with
  | zero =>
    intro m N k hm hNl hN hNe hk
    obtain ⟨k, rfl⟩ : ∃ q, k = q + 1 := ⟨k - 1, by omega⟩
    unfold spec_Interpolate.l2
    rw [if_neg (by omega), if_pos (by omega), if_pos (by rw [I_len]; omega), if_pos (by omega), if_pos (by rw [I_len]; omega), rd_I, rd_I, Go.u8_xor_nat _ _ (a.hxs.get i) (a.hxs.get j), show a.xs.getD i 0 ^^^ a.xs.getD j 0 = a.X i ^^^ a.X j from rfl, spec_Div_eq (a.sc_lt i j) (a.gap_lt i j) (a.gap hi hj hji) k (by omega), Option.bind_some, wadd j (by omega)]
    refine hB N k hNl hN ?_ (by omega)
    rw [hNe, List.take_of_length_le (by omega)]
  | succ g ih =>
    intro m N k hm hNl hN hNe hk
    obtain ⟨k, rfl⟩ : ∃ q, k = q + 1 := ⟨k - 1, by omega⟩
    unfold spec_Interpolate.l2
    have e1 : By (N.set (m + 1) (N.getD (m + 1) 0 ^^^ b.getD m 0)) := hN.set _ (xor_lt (hN.get _) (hb.get _))
    rw [if_pos (by omega), if_pos (by omega), if_pos (by rw [I_len]; omega), wadd m (by omega), if_pos (by omega), if_pos (by rw [I_len]; omega), rd_I, rd_I, Go.u8_xor_nat _ _ (hN.get _) (hb.get _), Int.toNat_natCast, I_set, Option.bind_some, if_pos (by rw [I_len]; omega), if_pos (by omega), if_pos (by rw [I_len]; omega),
      rd_I, rd_I, spec_Mul_eq (hb.get m) (a.hxs.get j) k (by omega), Option.bind_some, Go.u8_xor_nat _ _ (e1.get m) (mul_lt _ _), Int.toNat_natCast, I_set]
    refine ih (m + 1) _ k (by omega) (by rw [List.length_set, List.length_set]; exact hNl) (e1.set m (xor_lt (e1.get m) (mul_lt _ _))) ?_ (by omega)
    rw [ev_set a.hx (mul_lt _ _) e1 m (by rw [List.length_set]; omega), ev_set a.hx (hb.get m) hN (m + 1) (by omega), hNe, ev_take a.hx hb m (by omega), add_mul (ev_lt (hb.take m)) (mul_lt _ _) (xor_lt a.hx (a.X_lt j)), Nat.xor_assoc]
    congr 1
    rw [mul_add a.hx (a.X_lt j) (mul_lt _ _)]
    have e2 : mul (b.getD m 0) (pw a.x (m + 1)) = mul (mul (b.getD m 0) (pw a.x m)) a.x := (mul_assoc (hb.get m) (pw_lt _ m) a.hx).symm
    have e3 : mul (mul (b.getD m 0) (a.xs.getD j 0)) (pw a.x m) = mul (mul (b.getD m 0) (pw a.x m)) (a.X j) := by
      rw [show a.xs.getD j 0 = a.X j from rfl, mul_assoc (hb.get m) (a.X_lt j) (pw_lt _ m), mul_assoc (hb.get m) (pw_lt _ m) (a.X_lt j), mul_comm (pw a.x m)]
    rw [e2, e3]
/-- The factors. -/
theorem Ask.factors (a : Ask) {i : Nat} (hi : i < a.n) {out : List Nat} (hol : out.length = a.n) (hob : By out) (hoe : ev a.x out = a.S i) (K : Nat) (hK : 1000 ≤ K)
    (hA : ∀ (out : List Nat) (k : Nat), out.length = a.n → By out → ev a.x out = a.S (i + 1) → K ≤ k → ∃ r, spec_Interpolate.l0 k (I a.xs) (I a.ys) (I out) (a.n : Int) ((i + 1 : Nat) : Int) = some (I r) ∧ a.Good r) (e : Nat) :
    ∀ (j : Nat) (b : List Nat) (k : Nat), j + e = a.n → b.length = (if i < j then j else j + 1) → By b → ev a.x b = a.bs i j → K + 30 * (e + 1) ≤ k →
      ∃ r, spec_Interpolate.l1 k (I a.xs) (I a.ys) (I out) (i : Int) (I b) (a.sc i j : Int) (a.n : Int) (i : Int) (a.n : Int) (j : Int) = some (I r) ∧ a.Good r := by
  have h24 : a.n ≤ 24 := a.hn
  induction e with
  | zero =>
    intro j b k hj hbl hb hbe hk
    obtain ⟨k, rfl⟩ : ∃ q, k = q + 1 := ⟨k - 1, by omega⟩
    obtain rfl : j = a.n := by omega
    rw [if_pos hi] at hbl
    unfold spec_Interpolate.l1
    rw [if_neg (by omega), I_len, hbl]
    refine a.addLoop hi hb hbl hbe K hK hA a.n 0 out k (by omega) hol hob ?_ (by omega)
    rw [hoe, List.take_zero]
    show a.S i = a.S i ^^^ mul 0 (a.sc i a.n)
    rw [zero_mul, Nat.xor_zero]
  | succ e ih =>
    intro j b k hj hbl hb hbe hk
    obtain ⟨k, rfl⟩ : ∃ q, k = q + 1 := ⟨k - 1, by omega⟩
    unfold spec_Interpolate.l1
    rw [if_pos (by omega)]
    by_cases hji : j = i
    · rw [if_pos (by omega), wadd j (by omega)]
      have h1 : a.sc i (j + 1) = a.sc i j := by
        conv => lhs; unfold Ask.sc
        rw [if_pos hji]
      have h2 : a.bs i (j + 1) = a.bs i j := by
        conv => lhs; unfold Ask.bs
        rw [if_pos hji]
      rw [← h1]
      refine ih (j + 1) b k (by omega) ?_ hb (by rw [hbe, h2]) (by omega)
      rw [hbl, if_neg (by omega), if_pos (by omega)]
    · have h1 : a.sc i (j + 1) = mul (a.sc i j) (div 1 (a.X i ^^^ a.X j)) := by
        conv => lhs; unfold Ask.sc
        rw [if_neg hji]
      have h2 : a.bs i (j + 1) = mul (a.bs i j) (a.x ^^^ a.X j) := by
        conv => lhs; unfold Ask.bs
        rw [if_neg hji]
      have hb25 : b.length ≤ 25 := by rw [hbl]; split <;> omega
      rw [if_neg (by omega), I_len, wadd _ (by omega), if_pos (by omega), if_pos (by omega), Int.toNat_natCast, I_rep]
      refine a.timesLoop hi (by omega) hji hb hb25 out (K + 30 * (e + 1)) (by omega) ?_ b.length 0 _ k (by omega) (by rw [List.length_replicate]) (By.rep _) ?_ (by omega)
      · intro b' k' hl' hb' he' hk'
        rw [← h1]
        refine ih (j + 1) b' k' (by omega) ?_ hb' (by rw [he', h2, hbe]) hk'
        rw [hl', hbl]
        by_cases hij : i < j
        · rw [if_pos hij, if_pos (by omega)]
        · rw [if_neg hij, if_neg (by omega)]
      · rw [ev_rep, List.take_zero]
        show 0 = mul 0 _
        rw [zero_mul]
theorem Ask.points (a : Ask) (d : Nat) : ∀ (i : Nat) (out : List Nat) (k : Nat), i + d = a.n → out.length = a.n → By out → ev a.x out = a.S i → 1000 * (d + 1) ≤ k →
    ∃ r, spec_Interpolate.l0 k (I a.xs) (I a.ys) (I out) (a.n : Int) (i : Int) = some (I r) ∧ a.Good r := by
  have h24 : a.n ≤ 24 := a.hn
  have hyl : a.ys.length = a.n := a.hl
  have hxl : a.xs.length = a.n := rfl
  induction d with
  | zero =>
    intro i out k hi hol hob hoe hk
    obtain ⟨k, rfl⟩ : ∃ q, k = q + 1 := ⟨k - 1, by omega⟩
    obtain rfl : i = a.n := by omega
    unfold spec_Interpolate.l0
    rw [if_neg (by omega)]
    exact ⟨out, rfl, hol, hob, hoe⟩
  | succ d ih =>
    intro i out k hi hol hob hoe hk
    obtain ⟨k, rfl⟩ : ∃ q, k = q + 1 := ⟨k - 1, by omega⟩
    unfold spec_Interpolate.l0
    rw [if_pos (by omega), if_pos (by omega), if_pos (by rw [I_len]; omega), rd_I, I_len, hxl]
    refine a.factors (by omega) hol hob hoe (1000 * (d + 1)) (by omega) (fun o k' h1 h2 h3 h4 => ih (i + 1) o k' (by omega) h1 h2 h3 h4) a.n 0 [1] k (by omega) (by rw [if_neg (by omega)]; rfl) (fun x hx => by rw [List.mem_singleton.mp hx]; decide) ?_ (by omega)
    show 1 ^^^ mul 0 a.x = 1
    rw [zero_mul, Nat.xor_zero]
theorem Ask.interpolate (a : Ask) (k : Nat) (hk : 30000 ≤ k) : ∃ r, spec_Interpolate.f k (I a.xs) (I a.ys) = some (I r) ∧ a.Good r := by
  have h24 : a.n ≤ 24 := a.hn
  have hxl : a.xs.length = a.n := rfl
  unfold spec_Interpolate.f
  rw [I_len, hxl, if_pos (by omega), if_pos (by omega), Int.toNat_natCast, I_rep]
  exact a.points a.n 0 _ k (by omega) (by rw [List.length_replicate]) (By.rep _) (ev_rep _ _) (by omega)
/-- The law's own sum. -/
theorem impl_Div_eq {p q : Nat} (hp : p < 256) (hq : q < 256) (h0 : q ≠ 0) : impl_Div.f (p : Int) (q : Int) = some (((div p q : Nat) : Int), true) := by
  unfold impl_Div.f reedsolomon_DoorDivide.f
  rw [if_neg (by omega), galDivide_eq hp hq h0]; rfl
theorem Ask.term (a : Ask) {i : Nat} (hi : i < a.n) (o : Nat) (K : Nat) (hO : ∀ k, K ≤ k → laws_FnFieldInterpolates.l2 k (I a.xs) (I a.ys) (a.x : Int) ((o ^^^ a.tf i a.n : Nat) : Int) (I a.xs) (a.n : Int) ((i + 1 : Nat) : Int) = some true) (ho : o < 256) (e : Nat) :
    ∀ (j k : Nat), j + e = a.n → K + e + 1 ≤ k → laws_FnFieldInterpolates.l3 k (I a.xs) (I a.ys) (a.x : Int) (o : Int) (i : Int) (a.X i : Int) (a.tf i j : Int) (I a.xs) (a.n : Int) (i : Int) (I a.xs) (a.n : Int) (j : Int) = some true := by
  have h24 : a.n ≤ 24 := a.hn
  have hxl : a.xs.length = a.n := rfl
  induction e with
  | zero =>
    intro j k hj hk
    obtain ⟨k, rfl⟩ : ∃ q, k = q + 1 := ⟨k - 1, by omega⟩
    obtain rfl : j = a.n := by omega
    unfold laws_FnFieldInterpolates.l3
    rw [if_neg (by omega), impl_Add_eq ho (a.tf_lt i _), Option.bind_some, wadd i (by omega)]
    exact hO k (by omega)
  | succ e ih =>
    intro j k hj hk
    obtain ⟨k, rfl⟩ : ∃ q, k = q + 1 := ⟨k - 1, by omega⟩
    unfold laws_FnFieldInterpolates.l3
    rw [if_pos (by omega), if_pos (by omega), if_pos (by rw [I_len]; omega)]
    by_cases hji : j = i
    · have h1 : a.tf i (j + 1) = a.tf i j := by
        conv => lhs; unfold Ask.tf
        rw [if_pos hji]
      rw [if_pos (by omega), wadd j (by omega), ← h1]
      exact ih (j + 1) k (by omega) (by omega)
    · have h1 : a.tf i (j + 1) = mul (a.tf i j) (div (a.x ^^^ a.X j) (a.X i ^^^ a.X j)) := by
        conv => lhs; unfold Ask.tf
        rw [if_neg hji]
      rw [if_neg (by omega), rd_I, show a.xs.getD j 0 = a.X j from rfl, impl_Add_eq a.hx (a.X_lt j), Option.bind_some, impl_Add_eq (a.X_lt i) (a.X_lt j), Option.bind_some, impl_Div_eq (xor_lt a.hx (a.X_lt j)) (a.gap_lt i j) (a.gap hi (by omega) hji), Option.bind_some, if_pos rfl, impl_Mul_eq (a.tf_lt i j) (div_lt _ _), Option.bind_some, wadd j (by omega), ← h1]
      exact ih (j + 1) k (by omega) (by omega)
theorem Ask.sum (a : Ask) (d : Nat) : ∀ (i k : Nat), i + d = a.n → 31000 + 100 * d ≤ k → laws_FnFieldInterpolates.l2 k (I a.xs) (I a.ys) (a.x : Int) (a.S i : Int) (I a.xs) (a.n : Int) (i : Int) = some true := by
  have h24 : a.n ≤ 24 := a.hn
  have hxl : a.xs.length = a.n := rfl
  have hyl : a.ys.length = a.n := a.hl
  induction d with
  | zero =>
    intro i k hi hk
    obtain ⟨k, rfl⟩ : ∃ q, k = q + 1 := ⟨k - 1, by omega⟩
    obtain rfl : i = a.n := by omega
    unfold laws_FnFieldInterpolates.l2
    obtain ⟨r, e, hrl, hrb, hre⟩ := a.interpolate k (by omega)
    rw [if_neg (by omega), e, Option.bind_some, eval_eq a.hx hrb (by omega) k (by omega), Option.bind_some, hre]
    congr 1
    exact beq_self_eq_true _
  | succ d ih =>
    intro i k hi hk
    obtain ⟨k, rfl⟩ : ∃ q, k = q + 1 := ⟨k - 1, by omega⟩
    unfold laws_FnFieldInterpolates.l2
    rw [if_pos (by omega), if_pos (by omega), if_pos (by rw [I_len]; omega), if_pos (by rw [I_len]; omega), rd_I, rd_I, I_len, hxl]
    exact a.term (by omega) (a.S i) (31000 + 100 * d) (fun k' hk' => ih (i + 1) k' (by omega) hk') (a.S_lt i) a.n 0 k (by omega) (by omega)
/-- Points that differ. -/
theorem distinct {xs ys : List Nat} {x : Nat} (hxs : By xs) (hys : By ys) (hx : x < 256) (hn : xs.length ≤ 24) (hl : ys.length = xs.length) (d : Nat) :
    ∀ (i k : Nat), i + d = xs.length → (∀ p q, p < i → q < i → p ≠ q → xs.getD p 0 ≠ xs.getD q 0) → 40000 + 100 * d ≤ k → laws_FnFieldInterpolates.l0 k (I xs) (I ys) (x : Int) (I xs) (xs.length : Int) (i : Int) = some true := by
  induction d with
  | zero =>
    intro i k hi hd hk
    obtain ⟨k, rfl⟩ : ∃ q, k = q + 1 := ⟨k - 1, by omega⟩
    obtain rfl : i = xs.length := by omega
    unfold laws_FnFieldInterpolates.l0
    rw [if_neg (by omega), I_len]
    have := Ask.sum { xs := xs, ys := ys, x := x, hxs := hxs, hys := hys, hx := hx, hn := hn, hl := hl, hd := hd } xs.length 0 k (by show 0 + xs.length = xs.length; omega) (by omega)
    exact this
  | succ d ih =>
    intro i k hi hd hk
    obtain ⟨k, rfl⟩ : ∃ q, k = q + 1 := ⟨k - 1, by omega⟩
    unfold laws_FnFieldInterpolates.l0
    have et : (I xs).take i = I (xs.take i) := by unfold I; rw [List.map_take]
    have el : (xs.take i).length = i := by rw [List.length_take]; omega
    rw [if_pos (by omega), if_pos (by omega), if_pos (by rw [I_len]; omega), if_pos (by rw [I_len]; omega), rd_I, Int.toNat_natCast, et, I_len, el]
    suffices all : ∀ (e j k : Nat), j + e = i → (∀ p, p < j → xs.getD p 0 ≠ xs.getD i 0) → 40000 + 100 * d + e + 1 ≤ k → laws_FnFieldInterpolates.l1 k (I xs) (I ys) (x : Int) ((xs.getD i 0 : Nat) : Int) (I xs) (xs.length : Int) (i : Int) (I (xs.take i)) (i : Int) (j : Int) = some true from
      all i 0 k (by omega) (fun p hp => by omega) (by omega)
    intro e
    induction e with
    | zero =>
      intro j k hj hp hk
      obtain ⟨k, rfl⟩ : ∃ q, k = q + 1 := ⟨k - 1, by omega⟩
      obtain rfl : j = i := by omega
      unfold laws_FnFieldInterpolates.l1
      rw [if_neg (by omega), wadd j (by omega)]
      refine ih (j + 1) k (by omega) (fun p q h1 h2 h3 => ?_) (by omega)
      by_cases h4 : p = j
      · subst h4; exact Ne.symm (hp q (by omega))
      · by_cases h5 : q = j
        · subst h5; exact hp p (by omega)
        · exact hd p q (by omega) (by omega) h3
    | succ e ihe =>
      intro j k hj hp hk
      obtain ⟨k, rfl⟩ : ∃ q, k = q + 1 := ⟨k - 1, by omega⟩
      unfold laws_FnFieldInterpolates.l1
      have eg : (xs.take i).getD j 0 = xs.getD j 0 := by
        rw [List.getD_eq_getElem?_getD, List.getD_eq_getElem?_getD, List.getElem?_take_of_lt (by omega)]
      rw [if_pos (by omega), if_pos (by omega), if_pos (by rw [I_len]; omega), rd_I, eg]
      by_cases hs : xs.getD i 0 = xs.getD j 0
      · rw [if_pos (by rw [hs])]
      · rw [if_neg (fun h => hs (Int.ofNat_inj.mp h)), wadd j (by omega)]
        refine ihe (j + 1) k (by omega) (fun p h1 => ?_) (by omega)
        by_cases h4 : p = j
        · subst h4; exact Ne.symm hs
        · exact hp p (by omega)
theorem FnFieldInterpolates (l0 l1 : List Int) (a2 : Int) (w0 : l0.length ≤ maxLen ∧ ∀ x ∈ l0, (Lit.int .u8 x).wf = true) (w1 : l1.length ≤ maxLen ∧ ∀ x ∈ l1, (Lit.int .u8 x).wf = true) (h2 : (Lit.int .u8 a2).wf = true) :
    ∃ k, laws_FnFieldInterpolates.f k l0 l1 a2 = some true := by
  obtain ⟨_, h0⟩ := w0
  obtain ⟨_, h1⟩ := w1
  obtain ⟨xs, rfl, hxs⟩ := ints h0
  obtain ⟨ys, rfl, hys⟩ := ints h1
  obtain ⟨x, rfl, hx⟩ := wf_u8 h2
  have j0t : ∀ (k : Nat), laws_FnFieldInterpolates.j0 (k + 1) (I xs) (I ys) (x : Int) true = some true := fun k => by
    rw [laws_FnFieldInterpolates.j0, if_pos rfl]
  have j1t : ∀ (k : Nat), laws_FnFieldInterpolates.j1 (k + 1) (I xs) (I ys) (x : Int) true = some true := fun k => by
    rw [laws_FnFieldInterpolates.j1, if_pos rfl]
  refine ⟨50002, ?_⟩
  unfold laws_FnFieldInterpolates.f
  by_cases c0 : ((I xs).length : Int) > 2147483647
  · rw [if_pos c0]; exact j0t 50001
  · rw [if_neg c0]
    by_cases c1 : ((I ys).length : Int) > 2147483647
    · rw [decide_eq_true c1]; exact j0t 50001
    · rw [decide_eq_false c1]
      show laws_FnFieldInterpolates.j0 (50001 + 1) _ _ _ _ = _
      rw [laws_FnFieldInterpolates.j0, if_neg (by decide)]
      by_cases c2 : ((I xs).length : Int) = 0
      · rw [if_pos c2]; exact j1t 50000
      · rw [if_neg c2]
        by_cases c3 : ((I xs).length : Int) > 24
        · rw [if_pos c3]; exact j1t 50000
        · rw [if_neg c3]
          by_cases c4 : ((I ys).length : Int) = ((I xs).length : Int)
          · rw [bne_eq_false_iff_eq.mpr c4]
            show laws_FnFieldInterpolates.j1 (50000 + 1) _ _ _ _ = _
            rw [laws_FnFieldInterpolates.j1, if_neg (by decide)]
            rw [I_len] at c3
            rw [I_len, I_len] at c4
            rw [I_len]
            exact distinct hxs hys hx (by omega) (by omega) xs.length 0 50000 (by omega) (fun p q h => by omega) (by omega)
          · rw [bne_iff_ne.mpr c4]; exact j1t 50000
end Go.Proofs.YtladpdeneiaaeaaDoor.Pure
