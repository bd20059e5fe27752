namespace Go.Proofs.Qxb6617384a.Plain

/-- The number that four words spell, the least significant first. -/
def val (a0 a1 a2 a3 : Nat) : Nat := a0 + 18446744073709551616 * (a1 + 18446744073709551616 * (a2 + 18446744073709551616 * a3))
/-- Word i of a number. -/
def limb (A i : Nat) : Nat := A / 2 ^ (64 * i) % 18446744073709551616
/-- The n bits of A from bit at up. -/
def window (A at' n : Nat) : Nat := A / 2 ^ at' % 2 ^ n

theorem limb_lt (A i : Nat) : limb A i < 18446744073709551616 := Nat.mod_lt _ (by decide)
theorem val_lt (a0 a1 a2 a3 : Nat) (h0 : a0 < 18446744073709551616) (h1 : a1 < 18446744073709551616) (h2 : a2 < 18446744073709551616) (h3 : a3 < 18446744073709551616) : val a0 a1 a2 a3 < 2 ^ 256 := by
  unfold val
  omega
theorem limb_val (a0 a1 a2 a3 : Nat) (h0 : a0 < 18446744073709551616) (h1 : a1 < 18446744073709551616) (h2 : a2 < 18446744073709551616) (h3 : a3 < 18446744073709551616) :
    limb (val a0 a1 a2 a3) 0 = a0 ∧ limb (val a0 a1 a2 a3) 1 = a1 ∧ limb (val a0 a1 a2 a3) 2 = a2 ∧ limb (val a0 a1 a2 a3) 3 = a3 := by
  unfold val limb
  refine ⟨?_, ?_, ?_, ?_⟩ <;> simp only [Nat.reduceMul, Nat.reducePow] <;> omega
theorem testBit_limb (A i j : Nat) : (limb A i).testBit j = (decide (j < 64) && A.testBit (64 * i + j)) := by
  unfold limb
  rw [show (18446744073709551616 : Nat) = 2 ^ 64 from by decide, Nat.testBit_mod_two_pow, Nat.testBit_div_two_pow, Nat.add_comm j]
theorem testBit_window (A at' n j : Nat) : (window A at' n).testBit j = (decide (j < n) && A.testBit (at' + j)) := by
  unfold window
  rw [Nat.testBit_mod_two_pow, Nat.testBit_div_two_pow, Nat.add_comm j]
theorem testBit_big {A k : Nat} (hA : A < 2 ^ 256) (hk : 256 ≤ k) : A.testBit k = false :=
  Nat.testBit_lt_two_pow (Nat.lt_of_lt_of_le hA (Nat.pow_le_pow_right (by decide) hk))

/-- One word holds it all: the shift is 0, or the word is the last. -/
theorem read_one (A i s n : Nat) (hA : A < 2 ^ 256) (_hs : s < 64) (hn : n ≤ 64) (h : s = 0 ∨ 3 ≤ i) :
    (limb A i / 2 ^ s) &&& (2 ^ n - 1) = window A (64 * i + s) n := by
  apply Nat.eq_of_testBit_eq
  intro j
  rw [Nat.testBit_and, Nat.testBit_two_pow_sub_one, Nat.testBit_div_two_pow, testBit_limb, testBit_window]
  by_cases hj : j < n
  · by_cases hjs : j + s < 64
    · simp [hj, hjs, show 64 * i + (j + s) = 64 * i + s + j from by omega]
    · have := testBit_big (k := 64 * i + s + j) hA (by omega)
      simp [hj, hjs, this]
  · simp [hj]
theorem read_two (A i s n : Nat) (hs : s < 64) (hs0 : 0 < s) (hn : n ≤ 64) :
    ((limb A i / 2 ^ s) ||| (limb A (i + 1) * 2 ^ (64 - s) % 18446744073709551616)) &&& (2 ^ n - 1) = window A (64 * i + s) n := by
  apply Nat.eq_of_testBit_eq
  intro j
  rw [show (18446744073709551616 : Nat) = 2 ^ 64 from by decide, Nat.testBit_and, Nat.testBit_two_pow_sub_one, Nat.testBit_or, Nat.testBit_div_two_pow, Nat.testBit_mod_two_pow, Nat.testBit_mul_two_pow, testBit_limb, testBit_limb, testBit_window]
  by_cases hj : j < n
  · by_cases hjs : j + s < 64
    · have h2 : ¬ (64 - s ≤ j) := by omega
      simp [hj, hjs, h2, show 64 * i + (j + s) = 64 * i + s + j from by omega]
    · have h2 : 64 - s ≤ j := by omega
      have h3 : j < 64 := by omega
      have h4 : j - (64 - s) < 64 := by omega
      simp [hj, hjs, h2, h3, h4, show 64 * (i + 1) + (j - (64 - s)) = 64 * i + s + j from by omega]
  · simp [hj]
theorem window_far (A k n : Nat) (hA : A < 2 ^ 256) (hk : 256 ≤ k) : window A k n = 0 := by
  unfold window
  rw [Nat.div_eq_of_lt (Nat.lt_of_lt_of_le hA (Nat.pow_le_pow_right (by decide) hk))]
  simp
theorem window_lt (A k n : Nat) : window A k n < 2 ^ n := Nat.mod_lt _ (Nat.two_pow_pos _)
theorem window_word (A k n : Nat) (hn : n ≤ 64) : window A k n < 18446744073709551616 :=
  Nat.lt_of_lt_of_le (window_lt A k n) (Nat.pow_le_pow_right (n := 2) (by decide) hn)
/-- The n + m bits are the n bits and the m bits above them. -/
theorem window_join (A k n m : Nat) (h : n + m ≤ 64) : window A k n ||| (window A (k + n) m * 2 ^ n % 18446744073709551616) = window A k (n + m) := by
  apply Nat.eq_of_testBit_eq
  intro j
  rw [show (18446744073709551616 : Nat) = 2 ^ 64 from by decide, Nat.testBit_or, Nat.testBit_mod_two_pow, Nat.testBit_mul_two_pow, testBit_window, testBit_window, testBit_window]
  by_cases hj : j < n
  · have h2 : ¬ (n ≤ j) := by omega
    have h3 : j < n + m := by omega
    simp [hj, h2, h3]
  · by_cases h3 : j < n + m
    · have h2 : n ≤ j := by omega
      have h4 : j < 64 := by omega
      have h5 : j - n < m := by omega
      simp [hj, h2, h3, h4, h5, show k + n + (j - n) = k + j from by omega]
    · have h5 : ¬ (j - n < m) := by omega
      simp [hj, h3, h5]
/-- Bit k of A, as a number. -/
def bit (A k : Nat) : Nat := A / 2 ^ k % 2
theorem bit_eq (A k : Nat) : bit A k = (A.testBit k).toNat := by
  unfold bit
  rw [Nat.testBit_eq_decide_div_mod_eq]
  rcases Nat.mod_two_eq_zero_or_one (A / 2 ^ k) with h | h <;> simp [h]
theorem bit_window (A k n j : Nat) (h : j < n) : window A k n / 2 ^ j % 2 = bit A (k + j) := by
  have := bit_eq (window A k n) j
  unfold bit at this
  rw [this, bit_eq, testBit_window]
  simp [h]
theorem bit_window_out (A k n j : Nat) (h : n ≤ j) : window A k n / 2 ^ j % 2 = 0 := by
  rw [Nat.div_eq_of_lt (Nat.lt_of_lt_of_le (window_lt A k n) (Nat.pow_le_pow_right (by decide) h))]
theorem bit_limb (A i s : Nat) (h : s < 64) : limb A i / 2 ^ s % 2 = bit A (64 * i + s) := by
  have := bit_eq (limb A i) s
  unfold bit at this
  rw [this, bit_eq, testBit_limb]
  simp [h]
theorem bit_far (A k : Nat) (hA : A < 2 ^ 256) (hk : 256 ≤ k) : bit A k = 0 := by
  rw [bit_eq, testBit_big hA hk]; rfl

/-- THE REBUILDING: words of the low q bits. -/
theorem limb_low_succ_at (A q i : Nat) (hq : q / 64 = i) (hb : bit A q = 1) : limb (A % 2 ^ (q + 1)) i = limb (A % 2 ^ q) i ||| 2 ^ (q % 64) := by
  have hb' : A.testBit q = true := by
    rw [bit_eq] at hb
    cases h : A.testBit q
    · rw [h] at hb; simp at hb
    · rfl
  apply Nat.eq_of_testBit_eq
  intro j
  rw [Nat.testBit_or, testBit_limb, testBit_limb, Nat.testBit_mod_two_pow, Nat.testBit_mod_two_pow, Nat.testBit_two_pow]
  by_cases hj : j < 64
  · by_cases he : q % 64 = j
    · have e1 : 64 * i + j = q := by omega
      simp [hj, he, e1, hb']
    · have e1 : (64 * i + j < q + 1) ↔ (64 * i + j < q) := by omega
      simp [hj, he, e1]
  · have he : ¬ q % 64 = j := by omega
    simp [hj, he]
theorem limb_low_succ_other (A q i : Nat) (hq : q / 64 ≠ i) : limb (A % 2 ^ (q + 1)) i = limb (A % 2 ^ q) i := by
  apply Nat.eq_of_testBit_eq
  intro j
  rw [testBit_limb, testBit_limb, Nat.testBit_mod_two_pow, Nat.testBit_mod_two_pow]
  by_cases hj : j < 64
  · have e1 : (64 * i + j < q + 1) ↔ (64 * i + j < q) := by omega
    simp [hj, e1]
  · simp [hj]
theorem low_succ_zero (A q : Nat) (hb : bit A q ≠ 1) : A % 2 ^ (q + 1) = A % 2 ^ q := by
  have hb' : A.testBit q = false := by
    rw [bit_eq] at hb
    cases h : A.testBit q
    · rfl
    · rw [h] at hb; simp at hb
  apply Nat.eq_of_testBit_eq
  intro j
  rw [Nat.testBit_mod_two_pow, Nat.testBit_mod_two_pow]
  by_cases he : j = q
  · subst he; simp [hb']
  · have e1 : (j < q + 1) ↔ (j < q) := by omega
    simp [e1]
theorem low_all (A q : Nat) (hA : A < 2 ^ 256) (hq : 256 ≤ q) : A % 2 ^ q = A :=
  Nat.mod_eq_of_lt (Nat.lt_of_lt_of_le hA (Nat.pow_le_pow_right (by decide) hq))
end Go.Proofs.Qxb6617384a.Plain
