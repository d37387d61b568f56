namespace Go.Proofs.YbulkhwoDoor

/-- The i-th of nine digits of y, as a byte. -/
def Dg (y i : Nat) : Nat := 48 + y / 10 ^ (8 - i) % 10
/-- The i-th of nineteen digits of c, as a byte. -/
def D19 (c i : Nat) : Nat := 48 + c / 10 ^ (18 - i) % 10

/-- putNine's t ahead of round k. -/
def T (y : Nat) : Nat → Nat
  | 0 => y * 1441151881
  | k + 1 => (T y k % 144115188075855872) * 100

theorem T_zero (y : Nat) : T y 0 = y * 1441151881 := rfl
theorem T_succ (y k : Nat) : T y (k + 1) = (T y k % 144115188075855872) * 100 := rfl

theorem gen (s t r B E : Nat) (hs : 0 < s) (hE : E < B) (h : s * t = r * B + E) : t / B = r / s ∧ s * (t % B) = (r % s) * B + E := by
  have hr := Nat.div_add_mod r s
  have hlt := Nat.mod_lt r hs
  generalize r / s = q at *
  generalize r % s = r' at *
  have h1 : s * t = s * (q * B) + (r' * B + E) := by
    rw [h, ← hr, Nat.add_mul, Nat.mul_assoc, Nat.add_assoc]
  have h2 : q * B ≤ t := Nat.le_of_mul_le_mul_left (by omega : s * (q * B) ≤ s * t) hs
  obtain ⟨f, rfl⟩ := Nat.exists_eq_add_of_le h2
  have h3 : s * f = r' * B + E := by
    rw [Nat.mul_add] at h1
    omega
  have h4 : (r' + 1) * B ≤ s * B := Nat.mul_le_mul_right B hlt
  have h5 : s * f < s * B := by
    rw [Nat.add_mul, Nat.one_mul] at h4
    omega
  have h6 : f < B := Nat.lt_of_mul_lt_mul_left h5
  have hB : 0 < B := by omega
  refine ⟨?_, ?_⟩
  · rw [Nat.add_comm, Nat.add_mul_div_right _ _ hB, Nat.div_eq_of_lt h6, Nat.zero_add]
  · rw [Nat.add_comm, Nat.add_mul_mod_self_right, Nat.mod_eq_of_lt h6, h3]

theorem err_lt (y : Nat) (hy : y < 1000000000) : y * 24144128 < 144115188075855872 := by omega

/-- the whole part of t at round k -/
theorem T_whole (y : Nat) (hy : y < 1000000000) :
    T y 0 / 144115188075855872 = y / 100000000 ∧ T y 1 / 144115188075855872 = y / 1000000 % 100 ∧ T y 2 / 144115188075855872 = y / 10000 % 100 ∧
      T y 3 / 144115188075855872 = y / 100 % 100 ∧ T y 4 / 144115188075855872 = y % 100 := by
  have hE := err_lt y hy
  have g0 : 100000000 * T y 0 = y * 144115188075855872 + y * 24144128 := by rw [T_zero]; omega
  obtain ⟨a0, b0⟩ := gen _ _ _ _ _ (by omega) hE g0
  have g1 : 1000000 * T y 1 = y % 100000000 * 144115188075855872 + y * 24144128 := by rw [T_succ, ← b0]; omega
  obtain ⟨a1, b1⟩ := gen _ _ _ _ _ (by omega) hE g1
  have g2 : 10000 * T y 2 = y % 100000000 % 1000000 * 144115188075855872 + y * 24144128 := by rw [T_succ, ← b1]; omega
  obtain ⟨a2, b2⟩ := gen _ _ _ _ _ (by omega) hE g2
  have g3 : 100 * T y 3 = y % 100000000 % 1000000 % 10000 * 144115188075855872 + y * 24144128 := by rw [T_succ, ← b2]; omega
  obtain ⟨a3, b3⟩ := gen _ _ _ _ _ (by omega) hE g3
  have g4 : 1 * T y 4 = y % 100000000 % 1000000 % 10000 % 100 * 144115188075855872 + y * 24144128 := by rw [T_succ, ← b3]; omega
  obtain ⟨a4, b4⟩ := gen _ _ _ _ _ (by omega) hE g4
  clear g0 g1 g2 g3 g4 b0 b1 b2 b3 b4 hE
  exact ⟨a0, by omega, by omega, by omega, by omega⟩

theorem T_lt (y k : Nat) (hy : y < 1000000000) : T y k < 18446744073709551616 ∧ T y k % 144115188075855872 * 100 < 18446744073709551616 := by
  refine ⟨?_, by omega⟩
  cases k with
  | zero => rw [T_zero]; omega
  | succ k => rw [T_succ]; omega

theorem T_pair_lt (y k : Nat) (hy : y < 1000000000) (h0 : 1 ≤ k) (h : k ≤ 4) : T y k / 144115188075855872 < 100 := by
  obtain ⟨_, h1, h2, h3, h4⟩ := T_whole y hy
  have : k = 1 ∨ k = 2 ∨ k = 3 ∨ k = 4 := by omega
  rcases this with rfl | rfl | rfl | rfl <;> omega

theorem Dg0 (y : Nat) (hy : y < 1000000000) : 48 + T y 0 / 144115188075855872 = Dg y 0 := by
  have := (T_whole y hy).1
  unfold Dg
  rw [this]
  show 48 + y / 100000000 = 48 + y / 100000000 % 10
  omega

theorem Dg_pair (y k : Nat) (hy : y < 1000000000) (h0 : 1 ≤ k) (h : k ≤ 4) :
    48 + (T y k / 144115188075855872) / 10 = Dg y (2 * k - 1) ∧ 48 + (T y k / 144115188075855872) % 10 = Dg y (2 * k) := by
  obtain ⟨_, h1, h2, h3, h4⟩ := T_whole y hy
  have : k = 1 ∨ k = 2 ∨ k = 3 ∨ k = 4 := by omega
  rcases this with rfl | rfl | rfl | rfl
  · rw [h1]
    show _ = 48 + y / 10000000 % 10 ∧ _ = 48 + y / 1000000 % 10
    omega
  · rw [h2]
    show _ = 48 + y / 100000 % 10 ∧ _ = 48 + y / 10000 % 10
    omega
  · rw [h3]
    show _ = 48 + y / 1000 % 10 ∧ _ = 48 + y / 100 % 10
    omega
  · rw [h4]
    show _ = 48 + y / 10 % 10 ∧ _ = 48 + y / 1 % 10
    omega

theorem Dg_lt (y i : Nat) : Dg y i < 256 := by unfold Dg; omega
theorem D19_lt (y i : Nat) : D19 y i < 256 := by unfold D19; omega

theorem D19_zero (c : Nat) (hc : c < 10000000000000000000) : 48 + c / 1000000000000000000 = D19 c 0 := by
  unfold D19
  show _ = 48 + c / 1000000000000000000 % 10
  omega

theorem pow_split (c a b : Nat) : c / 10 ^ (a + b) = c / 10 ^ a / 10 ^ b := by rw [Nat.pow_add, Nat.div_div_eq_div_mul]

theorem D19_hi (c i : Nat) (hi : i < 9) : Dg (c % 1000000000000000000 / 1000000000) i = D19 c (1 + i) := by
  have : i = 0 ∨ i = 1 ∨ i = 2 ∨ i = 3 ∨ i = 4 ∨ i = 5 ∨ i = 6 ∨ i = 7 ∨ i = 8 := by omega
  unfold Dg D19
  rcases this with rfl | rfl | rfl | rfl | rfl | rfl | rfl | rfl | rfl
  · show 48 + _ / 100000000 % 10 = 48 + c / 100000000000000000 % 10; omega
  · show 48 + _ / 10000000 % 10 = 48 + c / 10000000000000000 % 10; omega
  · show 48 + _ / 1000000 % 10 = 48 + c / 1000000000000000 % 10; omega
  · show 48 + _ / 100000 % 10 = 48 + c / 100000000000000 % 10; omega
  · show 48 + _ / 10000 % 10 = 48 + c / 10000000000000 % 10; omega
  · show 48 + _ / 1000 % 10 = 48 + c / 1000000000000 % 10; omega
  · show 48 + _ / 100 % 10 = 48 + c / 100000000000 % 10; omega
  · show 48 + _ / 10 % 10 = 48 + c / 10000000000 % 10; omega
  · show 48 + _ / 1 % 10 = 48 + c / 1000000000 % 10; omega

theorem D19_lo (c i : Nat) (hi : i < 9) : Dg (c % 1000000000000000000 % 1000000000) i = D19 c (10 + i) := by
  have : i = 0 ∨ i = 1 ∨ i = 2 ∨ i = 3 ∨ i = 4 ∨ i = 5 ∨ i = 6 ∨ i = 7 ∨ i = 8 := by omega
  unfold Dg D19
  rcases this with rfl | rfl | rfl | rfl | rfl | rfl | rfl | rfl | rfl
  · show 48 + _ / 100000000 % 10 = 48 + c / 100000000 % 10; omega
  · show 48 + _ / 10000000 % 10 = 48 + c / 10000000 % 10; omega
  · show 48 + _ / 1000000 % 10 = 48 + c / 1000000 % 10; omega
  · show 48 + _ / 100000 % 10 = 48 + c / 100000 % 10; omega
  · show 48 + _ / 10000 % 10 = 48 + c / 10000 % 10; omega
  · show 48 + _ / 1000 % 10 = 48 + c / 1000 % 10; omega
  · show 48 + _ / 100 % 10 = 48 + c / 100 % 10; omega
  · show 48 + _ / 10 % 10 = 48 + c / 10 % 10; omega
  · show 48 + _ / 1 % 10 = 48 + c / 1 % 10; omega

/-- what is left of c when the digits from place 19 - m on are gone -/
def Pre (c m : Nat) : Nat := c / 10 ^ m

theorem Pre_zero (c : Nat) : Pre c 0 = c := by unfold Pre; simp
theorem Pre_top (c : Nat) (hc : c < 10000000000000000000) : Pre c 19 = 0 := Nat.div_eq_of_lt (by show c < 10000000000000000000; exact hc)
theorem Pre_succ (c m : Nat) : Pre c (m + 1) = Pre c m / 10 := by unfold Pre; rw [pow_split]
/-- the digit at place k -/
theorem D19_pre (c k : Nat) : D19 c k = 48 + Pre c (18 - k) % 10 := rfl

/-- equal so far, and at k the digit is smaller: the number is smaller -/
theorem less_at (a c k : Nat) (hk : k < 19) (h : Pre a (19 - k) = Pre c (19 - k)) (hd : D19 a k < D19 c k) : a < c := by
  have e : 19 - k = (18 - k) + 1 := by omega
  rw [e, Pre_succ, Pre_succ] at h
  rw [D19_pre, D19_pre] at hd
  have h1 : Pre a (18 - k) < Pre c (18 - k) := by omega
  exact Nat.lt_of_not_le fun hle => by
    have : Pre c (18 - k) ≤ Pre a (18 - k) := Nat.div_le_div_right hle
    omega

theorem same_at (a c k : Nat) (hk : k < 19) (h : Pre a (19 - k) = Pre c (19 - k)) (hd : D19 a k = D19 c k) : Pre a (19 - (k + 1)) = Pre c (19 - (k + 1)) := by
  have e : 19 - k = (18 - k) + 1 := by omega
  have e2 : 19 - (k + 1) = 18 - k := by omega
  rw [e, Pre_succ, Pre_succ] at h
  rw [D19_pre, D19_pre] at hd
  rw [e2]
  omega

end Go.Proofs.YbulkhwoDoor
