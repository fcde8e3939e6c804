-- Written by a program of this session (wip/tools)

namespace Go.Proofs.YtielnphmcaecdaaDoor.Mth
def blen (n : Nat) : Nat := if n = 0 then 0 else blen (n / 2) + 1
def ones (n : Nat) : Nat := if n = 0 then 0 else n % 2 + ones (n / 2)
theorem blen_zero : blen 0 = 0 := by rw [blen, if_pos rfl]
theorem blen_pos {n : Nat} (h : 0 < n) : blen n = blen (n / 2) + 1 := by rw [blen, if_neg (by omega)]
theorem ones_zero : ones 0 = 0 := by rw [ones, if_pos rfl]
theorem ones_half (n : Nat) : ones n = n % 2 + ones (n / 2) := by
  by_cases h : n = 0
  · subst h; simp [ones_zero]
  · rw [ones, if_neg h]
theorem lt_blen (n : Nat) : n < 2 ^ blen n := by
  induction n using Nat.strongRecOn with
  | _ n ih =>
  by_cases h : n = 0
  · subst h; simp [blen_zero]
  · have := ih (n / 2) (by omega)
    rw [blen_pos (by omega), Nat.pow_succ]; omega
theorem blen_le {n m : Nat} : blen n ≤ m ↔ n < 2 ^ m := by
  induction m generalizing n with
  | zero =>
    by_cases h : n = 0
    · subst h; simp [blen_zero]
    · rw [blen_pos (by omega)]; simp; omega
  | succ m ih =>
    by_cases h : n = 0
    · subst h; simp [blen_zero, Nat.pow_pos]
    · rw [blen_pos (by omega), Nat.pow_succ]
      have := ih (n := n / 2)
      omega
theorem xor_lt_iff (a b m : Nat) : a ^^^ b < 2 ^ m ↔ a / 2 ^ m = b / 2 ^ m := by
  constructor
  · intro h
    have h1 := Nat.xor_div_two_pow (a := a) (b := b) (n := m)
    rw [Nat.div_eq_of_lt h] at h1
    have h2 : (a / 2 ^ m ^^^ b / 2 ^ m) ^^^ b / 2 ^ m = 0 ^^^ b / 2 ^ m := by rw [← h1]
    rwa [Nat.xor_assoc, Nat.xor_self, Nat.xor_zero, Nat.zero_xor] at h2
  · intro h
    have h1 := Nat.xor_div_two_pow (a := a) (b := b) (n := m)
    rw [h, Nat.xor_self] at h1
    exact (Nat.div_eq_zero_iff_lt (Nat.two_pow_pos m)).1 h1
def fork (i n : Nat) : Nat := blen (i ^^^ n)
theorem fork_le {i n m : Nat} : fork i n ≤ m ↔ i / 2 ^ m = n / 2 ^ m := by rw [fork, blen_le, xor_lt_iff]
theorem fork_eq (i n : Nat) : i / 2 ^ fork i n = n / 2 ^ fork i n := fork_le.1 (Nat.le_refl _)
theorem blen_lt64 {n : Nat} (h : n < 18446744073709551616) : blen n ≤ 64 := blen_le.2 h
theorem ones_le (n k : Nat) (h : n < 2 ^ k) : ones n ≤ k := by
  induction k generalizing n with
  | zero => have : n = 0 := by simpa using h
            subst this; simp [ones_zero]
  | succ k ih =>
    have := ih (n / 2) (by rw [Nat.pow_succ] at h; omega)
    rw [ones_half]; omega
theorem and_split (x a b : Nat) (ha : a < 256) : x &&& (a + 256 * b) = (x % 256 &&& a) + 256 * (x / 256 &&& b) := by
  have h1 := Nat.and_div_two_pow (a := x) (b := a + 256 * b) (n := 8)
  have h2 := Nat.and_mod_two_pow (a := x) (b := a + 256 * b) (n := 8)
  rw [show (2 : Nat) ^ 8 = 256 from rfl] at h1 h2
  rw [show (a + 256 * b) / 256 = b by omega] at h1
  rw [show (a + 256 * b) % 256 = a by omega] at h2
  omega
def msk (v : Nat) : Nat → Nat
  | 0 => 0
  | k + 1 => v + 256 * msk v k
def st1 (k x : Nat) : Nat := (x / 2 &&& msk 85 k) + (x &&& msk 85 k)
def st2 (k x : Nat) : Nat := (x / 4 &&& msk 51 k) + (x &&& msk 51 k)
def st3 (k x : Nat) : Nat := (x / 16 + x) &&& msk 15 k
theorem byte1 : ∀ b < 2, ∀ c < 256, (c / 2 + 128 * b) &&& 85 = c / 2 &&& 85 := by decide +kernel
theorem byte2 : ∀ b < 4, ∀ c < 256, (c / 4 + 64 * b) &&& 51 = c / 4 &&& 51 := by decide +kernel
def by1 (c : Nat) : Nat := (c / 2 &&& 85) + (c &&& 85)
def by2 (c : Nat) : Nat := (c / 4 &&& 51) + (c &&& 51)
theorem byte3 : ∀ c < 256, by1 c < 256 ∧ by2 (by1 c) ≤ 68 ∧ by2 (by1 c) % 16 ≤ 4 ∧ (by2 (by1 c) / 16 + by2 (by1 c)) % 16 = ones c ∧ ones c ≤ 8 := by decide +kernel
theorem st1_step (k x : Nat) : st1 (k + 1) x = by1 (x % 256) + 256 * st1 k (x / 256) := by
  have h := byte1 (x / 256 % 2) (by omega) (x % 256) (by omega)
  unfold st1 by1
  rw [show msk 85 (k + 1) = 85 + 256 * msk 85 k from rfl]
  rw [and_split _ _ _ (by omega), and_split _ _ _ (by omega), show x / 2 % 256 = x % 256 / 2 + 128 * (x / 256 % 2) by omega, h, show x / 2 / 256 = x / 256 / 2 by omega]
  omega
theorem st2_step (k x : Nat) : st2 (k + 1) x = by2 (x % 256) + 256 * st2 k (x / 256) := by
  have h := byte2 (x / 256 % 4) (by omega) (x % 256) (by omega)
  unfold st2 by2
  rw [show msk 51 (k + 1) = 51 + 256 * msk 51 k from rfl]
  rw [and_split _ _ _ (by omega), and_split _ _ _ (by omega), show x / 4 % 256 = x % 256 / 4 + 64 * (x / 256 % 4) by omega, h, show x / 4 / 256 = x / 256 / 4 by omega]
  omega
theorem ones_byte (k x : Nat) : ones (x % 2 ^ (k + 1)) = x % 2 + ones (x / 2 % 2 ^ k) := by
  rw [ones_half, Nat.pow_succ, Nat.mul_comm, Nat.mod_mul]
  have : 2 * (x / 2 % 2 ^ k) + x % 2 = x % 2 + 2 * (x / 2 % 2 ^ k) := by omega
  rw [show (x % 2 + 2 * (x / 2 % 2 ^ k)) / 2 = x / 2 % 2 ^ k by omega, show (x % 2 + 2 * (x / 2 % 2 ^ k)) % 2 = x % 2 by omega]
theorem ones_split (k x : Nat) : ones x = ones (x % 2 ^ k) + ones (x / 2 ^ k) := by
  induction k generalizing x with
  | zero => simp [Nat.mod_one, ones_zero]
  | succ k ih =>
    rw [ones_byte, ones_half x, ih (x / 2), Nat.div_div_eq_div_mul, Nat.pow_succ, Nat.mul_comm 2]; omega
def cnt : Nat → Nat → Nat
  | 0, _ => 0
  | k + 1, x => ones (x % 256) + 256 * cnt k (x / 256)
theorem st2_low (k x : Nat) : st2 k (st1 k x) % 16 ≤ 4 := by
  cases k with
  | zero => simp [st2, st1, msk]
  | succ k =>
    have h := byte3 (x % 256) (by omega)
    rw [st1_step, st2_step, show (by1 (x % 256) + 256 * st1 k (x / 256)) % 256 = by1 (x % 256) by omega]
    omega
theorem st3_all (k x : Nat) : st3 k (st2 k (st1 k x)) = cnt k x := by
  induction k generalizing x with
  | zero => simp [st3, msk, cnt]
  | succ k ih =>
    have h := byte3 (x % 256) (by omega)
    have hl := st2_low k (x / 256)
    rw [st1_step, st2_step, show (by1 (x % 256) + 256 * st1 k (x / 256)) % 256 = by1 (x % 256) by omega, show (by1 (x % 256) + 256 * st1 k (x / 256)) / 256 = st1 k (x / 256) by omega, cnt, ← ih (x / 256)]
    generalize hy : st2 k (st1 k (x / 256)) = y at *
    generalize hc : by2 (by1 (x % 256)) = c at *
    unfold st3
    rw [show msk 15 (k + 1) = 15 + 256 * msk 15 k from rfl]
    have e1 : ((c + 256 * y) / 16 + (c + 256 * y)) / 256 = y / 16 + y := by omega
    have e2 : ((c + 256 * y) / 16 + (c + 256 * y)) % 256 = c / 16 + c + 16 * (y % 16) := by omega
    rw [and_split _ _ _ (by omega), e1, e2]
    have e3 : (c / 16 + c + 16 * (y % 16)) &&& 15 = (c / 16 + c) % 16 := by
      have := Nat.and_two_pow_sub_one_eq_mod (c / 16 + c + 16 * (y % 16)) 4
      rw [show (2 : Nat) ^ 4 - 1 = 15 from rfl] at this
      rw [this]; omega
    rw [e3]; omega
theorem div_of {a m : Nat} (r : Nat) (h : a < m) : (a + m * r) / m = r := by rw [Nat.add_mul_div_left _ _ (by omega), Nat.div_eq_of_lt h, Nat.zero_add]
theorem lin1 (c0 c1 c2 c3 c4 c5 c6 c7 : Nat) : (c0 + 256 * (c1 + 256 * (c2 + 256 * (c3 + 256 * (c4 + 256 * (c5 + 256 * (c6 + 256 * (c7 + 256 * 0)))))))) + (c1 + 256 * (c2 + 256 * (c3 + 256 * (c4 + 256 * (c5 + 256 * (c6 + 256 * (c7 + 256 * 0)))))))
    = ((c0 + c1) + 256 * (c1 + c2)) + 65536 * ((c2 + c3) + 256 * (c3 + c4) + 65536 * ((c4 + c5) + 256 * (c5 + c6) + 65536 * ((c6 + c7) + 256 * c7))) := by omega
theorem lin2 (c0 c1 c2 c3 c4 c5 c6 c7 : Nat) : (((c0 + c1) + 256 * (c1 + c2)) + 65536 * ((c2 + c3) + 256 * (c3 + c4) + 65536 * ((c4 + c5) + 256 * (c5 + c6) + 65536 * ((c6 + c7) + 256 * c7)))) + ((c2 + c3) + 256 * (c3 + c4) + 65536 * ((c4 + c5) + 256 * (c5 + c6) + 65536 * ((c6 + c7) + 256 * c7)))
    = ((c0 + c1 + c2 + c3) + 256 * (c1 + c2 + c3 + c4) + 65536 * (c2 + c3 + c4 + c5) + 16777216 * (c3 + c4 + c5 + c6)) + 4294967296 * ((c4 + c5 + c6 + c7) + 256 * (c5 + c6 + c7) + 65536 * (c6 + c7) + 16777216 * c7) := by omega
theorem lin3 (c0 c1 c2 c3 c4 c5 c6 c7 : Nat) : (((c0 + c1 + c2 + c3) + 256 * (c1 + c2 + c3 + c4) + 65536 * (c2 + c3 + c4 + c5) + 16777216 * (c3 + c4 + c5 + c6)) + 4294967296 * ((c4 + c5 + c6 + c7) + 256 * (c5 + c6 + c7) + 65536 * (c6 + c7) + 16777216 * c7)) + ((c4 + c5 + c6 + c7) + 256 * (c5 + c6 + c7) + 65536 * (c6 + c7) + 16777216 * c7)
    = (c0 + (c1 + (c2 + (c3 + (c4 + (c5 + (c6 + c7))))))) + 128 * (2 * (c1 + c2 + c3 + c4) + 512 * (c2 + c3 + c4 + c5) + 131072 * (c3 + c4 + c5 + c6) + 33554432 * ((c4 + c5 + c6 + c7) + 256 * (c5 + c6 + c7) + 65536 * (c6 + c7) + 16777216 * c7) + 2 * (c5 + c6 + c7) + 512 * (c6 + c7) + 131072 * c7) := by omega
theorem spread (c0 c1 c2 c3 c4 c5 c6 c7 : Nat) (b0 : c0 ≤ 8) (b1 : c1 ≤ 8) (b2 : c2 ≤ 8) (b3 : c3 ≤ 8) (b4 : c4 ≤ 8) (b5 : c5 ≤ 8) (b6 : c6 ≤ 8) (b7 : c7 ≤ 8) :
    let y := c0 + 256 * (c1 + 256 * (c2 + 256 * (c3 + 256 * (c4 + 256 * (c5 + 256 * (c6 + 256 * (c7 + 256 * 0)))))))
    let y1 := y + y / 256; let y2 := y1 + y1 / 65536; let y3 := y2 + y2 / 4294967296
    y3 % 128 = c0 + (c1 + (c2 + (c3 + (c4 + (c5 + (c6 + c7)))))) ∧ y3 < 9223372036854775808 ∧ y2 < 18446744073709551616 ∧ y1 < 18446744073709551616 ∧ y < 18446744073709551616 := by
  dsimp only
  rw [div_of (a := c0) (m := 256) _ (by omega), lin1, div_of (m := 65536) _ (by omega), lin2, div_of (m := 4294967296) _ (by omega), lin3, Nat.add_mul_mod_self_left]
  refine ⟨Nat.mod_eq_of_lt (by omega), by omega, by omega, by omega, by omega⟩
theorem swar (x : Nat) (hx : x < 18446744073709551616) : let y := cnt 8 x; let y1 := y + y / 256; let y2 := y1 + y1 / 65536; let y3 := y2 + y2 / 4294967296; y3 % 128 = ones x ∧ y3 < 9223372036854775808 ∧ y2 < 18446744073709551616 ∧ y1 < 18446744073709551616 ∧ y < 18446744073709551616 := by
  have s0 := ones_split 8 x
  have s1 := ones_split 8 (x / 256)
  have s2 := ones_split 8 (x / 256 / 256)
  have s3 := ones_split 8 (x / 256 / 256 / 256)
  have s4 := ones_split 8 (x / 256 / 256 / 256 / 256)
  have s5 := ones_split 8 (x / 256 / 256 / 256 / 256 / 256)
  have s6 := ones_split 8 (x / 256 / 256 / 256 / 256 / 256 / 256)
  rw [show (2 : Nat) ^ 8 = 256 from rfl] at s0 s1 s2 s3 s4 s5 s6
  have e7 : x / 256 / 256 / 256 / 256 / 256 / 256 / 256 % 256 = x / 256 / 256 / 256 / 256 / 256 / 256 / 256 := by omega
  have b0 := (byte3 (x % 256) (by omega)).2.2.2.2
  have b1 := (byte3 (x / 256 % 256) (by omega)).2.2.2.2
  have b2 := (byte3 (x / 256 / 256 % 256) (by omega)).2.2.2.2
  have b3 := (byte3 (x / 256 / 256 / 256 % 256) (by omega)).2.2.2.2
  have b4 := (byte3 (x / 256 / 256 / 256 / 256 % 256) (by omega)).2.2.2.2
  have b5 := (byte3 (x / 256 / 256 / 256 / 256 / 256 % 256) (by omega)).2.2.2.2
  have b6 := (byte3 (x / 256 / 256 / 256 / 256 / 256 / 256 % 256) (by omega)).2.2.2.2
  have b7 := (byte3 (x / 256 / 256 / 256 / 256 / 256 / 256 / 256 % 256) (by omega)).2.2.2.2
  simp only [cnt]
  rw [e7] at b7 ⊢
  generalize ones (x % 256) = c0 at *
  generalize ones (x / 256 % 256) = c1 at *
  generalize ones (x / 256 / 256 % 256) = c2 at *
  generalize ones (x / 256 / 256 / 256 % 256) = c3 at *
  generalize ones (x / 256 / 256 / 256 / 256 % 256) = c4 at *
  generalize ones (x / 256 / 256 / 256 / 256 / 256 % 256) = c5 at *
  generalize ones (x / 256 / 256 / 256 / 256 / 256 / 256 % 256) = c6 at *
  generalize ones (x / 256 / 256 / 256 / 256 / 256 / 256 / 256) = c7 at *
  rw [s0, s1, s2, s3, s4, s5, s6]
  clear s0 s1 s2 s3 s4 s5 s6 e7 hx
  exact spread c0 c1 c2 c3 c4 c5 c6 c7 b0 b1 b2 b3 b4 b5 b6 b7
def psplit (n : Nat) : Nat := 2 ^ (blen (n - 1) - 1)
theorem blen_unique {n j : Nat} (h1 : 2 ^ j ≤ n) (h2 : n < 2 ^ (j + 1)) : blen n = j + 1 := by
  have h3 := blen_le.2 h2
  have h4 : ¬ blen n ≤ j := fun h => by have := blen_le.1 h; omega
  omega
theorem pow_blen_le {n : Nat} (h : 0 < n) : 2 ^ (blen n - 1) ≤ n := by
  have h1 : ¬ blen n ≤ blen n - 1 := by have := blen_pos h; omega
  rw [blen_le] at h1; omega
theorem psplit_lt {n : Nat} (h : 2 ≤ n) : psplit n < n := by
  have := pow_blen_le (n := n - 1) (by omega)
  unfold psplit; omega
theorem psplit_pos (n : Nat) : 0 < psplit n := Nat.two_pow_pos _
theorem le_psplit {n : Nat} (h : 2 ≤ n) : n ≤ 2 * psplit n := by
  have h1 := lt_blen (n - 1)
  have h2 := blen_pos (n := n - 1) (by omega)
  unfold psplit
  rw [show blen (n - 1) = blen (n - 1) - 1 + 1 by omega, Nat.pow_succ] at h1
  omega
theorem psplit_unique {n j : Nat} (h1 : 2 ^ j < n) (h2 : n ≤ 2 * 2 ^ j) : psplit n = 2 ^ j := by
  unfold psplit
  rw [blen_unique (j := j) (by omega) (by rw [Nat.pow_succ]; omega)]; rfl
theorem psplit_pow (k : Nat) : psplit (2 ^ (k + 1)) = 2 ^ k := psplit_unique (by rw [Nat.pow_succ]; have := Nat.two_pow_pos k; omega) (by rw [Nat.pow_succ]; omega)
def path (i b e : Nat) : List (Nat × Nat) :=
  if _h : e - b ≤ 1 then []
  else if i < b + psplit (e - b) then path i b (b + psplit (e - b)) ++ [(b + psplit (e - b), e)]
  else path i (b + psplit (e - b)) e ++ [(b, b + psplit (e - b))]
termination_by e - b
decreasing_by
  · have := psplit_lt (n := e - b) (by omega); omega
  · have := psplit_lt (n := e - b) (by omega); have := psplit_pos (e - b); omega
theorem path_one {i b e : Nat} (h : e - b ≤ 1) : path i b e = [] := by rw [path, dif_pos h]
theorem path_left {i b e : Nat} (h : 2 ≤ e - b) (hi : i < b + psplit (e - b)) : path i b e = path i b (b + psplit (e - b)) ++ [(b + psplit (e - b), e)] := by rw [path, dif_neg (by omega), if_pos hi]
theorem path_right {i b e : Nat} (h : 2 ≤ e - b) (hi : b + psplit (e - b) ≤ i) : path i b e = path i (b + psplit (e - b)) e ++ [(b, b + psplit (e - b))] := by rw [path, dif_neg (by omega), if_neg (by omega)]
theorem path_len (i b e : Nat) : (path i b e).length ≤ blen (e - b - 1) := by
  induction hn : e - b using Nat.strongRecOn generalizing b e with
  | _ n ih =>
  subst hn
  by_cases h : e - b ≤ 1
  · rw [path_one h]; simp
  · have h1 := psplit_lt (n := e - b) (by omega)
    have h2 := psplit_pos (e - b)
    have h3 := le_psplit (n := e - b) (by omega)
    have hL := blen_pos (n := e - b - 1) (by omega)
    have hp : psplit (e - b) = 2 ^ (blen (e - b - 1) - 1) := rfl
    by_cases hi : i < b + psplit (e - b)
    · rw [path_left (by omega) hi, List.length_append]
      have := ih (b + psplit (e - b) - b) (by omega) b (b + psplit (e - b)) rfl
      have h4 : blen (b + psplit (e - b) - b - 1) ≤ blen (e - b - 1) - 1 := blen_le.2 (by omega)
      simp; omega
    · rw [path_right (by omega) (by omega), List.length_append]
      have := ih (e - (b + psplit (e - b))) (by omega) (b + psplit (e - b)) e rfl
      have h4 : blen (e - (b + psplit (e - b)) - 1) ≤ blen (e - b - 1) - 1 := blen_le.2 (by omega)
      simp; omega
end Go.Proofs.YtielnphmcaecdaaDoor.Mth
