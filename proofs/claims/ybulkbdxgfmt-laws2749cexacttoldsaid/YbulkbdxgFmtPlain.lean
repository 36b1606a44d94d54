/-
  The plain laws: an id as four words of one number; a field written by mask and shift, or bit by bit, is one 'or'.
-/
namespace Go.Proofs.YbulkbdxgFmt.P

/-- Word j of N. -/
def wd (N j : Nat) : Nat := N / 2 ^ (64 * j) % 18446744073709551616

theorem wd_bit (N j b : Nat) : (wd N j).testBit b = (decide (b < 64) && N.testBit (64 * j + b)) := by
  unfold wd
  rw [show (18446744073709551616 : Nat) = 2 ^ 64 from rfl, Nat.testBit_mod_two_pow, Nat.testBit_div_two_pow, Nat.add_comm]

theorem wd_lt (N j : Nat) : wd N j < 18446744073709551616 := Nat.mod_lt _ (by decide)

theorem wd_zero (j : Nat) : wd 0 j = 0 := by simp [wd]

/-- The number with the digit v written at bit low. -/
def put (N v low : Nat) : Nat := N ||| v * 2 ^ low

theorem put_bit (N v low b : Nat) : (put N v low).testBit b = (N.testBit b || (decide (low ≤ b) && v.testBit (b - low))) := by
  unfold put
  rw [Nat.testBit_or, Nat.testBit_mul_two_pow]

theorem high {v k n : Nat} (h : v < 2 ^ n) (hk : n ≤ k) : v.testBit k = false :=
  Nat.testBit_lt_two_pow (Nat.lt_of_lt_of_le h (Nat.pow_le_pow_right (by decide) hk))

theorem comp_bit (m b : Nat) (h : m < 18446744073709551616) : (18446744073709551615 - m).testBit b = (decide (b < 64) && !m.testBit b) := by
  have := Nat.testBit_two_pow_sub_succ (n := 64) h b
  rw [← this]
  congr 1
  omega

/-- The lower word of a field. -/
theorem field_lo (N v db low i sh : Nat) (hlow : low = 64 * i + sh) (hN : ∀ b, b < low + db → N.testBit b = false) (m : Nat) (hm : m = 2 ^ db - 1) :
    (wd N i &&& (18446744073709551615 - m * 2 ^ sh % 18446744073709551616)) ||| (v * 2 ^ sh % 18446744073709551616) = wd (put N v low) i := by
  apply Nat.eq_of_testBit_eq
  intro b
  rw [Nat.testBit_or, Nat.testBit_and, wd_bit, wd_bit, put_bit, comp_bit _ _ (Nat.mod_lt _ (by decide)), show (18446744073709551616 : Nat) = 2 ^ 64 from rfl, Nat.testBit_mod_two_pow, Nat.testBit_mod_two_pow, Nat.testBit_mul_two_pow, Nat.testBit_mul_two_pow, hm, Nat.testBit_two_pow_sub_one]
  by_cases hb : b < 64
  · by_cases h1 : sh ≤ b
    · have e : 64 * i + b - low = b - sh := by omega
      have e2 : low ≤ 64 * i + b := by omega
      by_cases h2 : b - sh < db
      · rw [hN (64 * i + b) (by omega)]
        simp [hb, h1, e, e2]
      · simp [hb, h1, e, e2, h2]
    · have e2 : ¬ low ≤ 64 * i + b := by omega
      simp [hb, h1, e2]
  · simp [hb]

/-- The upper word of a field that lies over two. -/
theorem field_hi (N v db low i sh : Nat) (hlow : low = 64 * i + sh) (hsh : sh < 64) (hv : v < 2 ^ db) (hdb : db ≤ 64) (hN : ∀ b, b < low + db → N.testBit b = false) (m : Nat) (hm : m = 2 ^ db - 1) :
    (wd N (i + 1) &&& (18446744073709551615 - m / 2 ^ (64 - sh))) ||| (v / 2 ^ (64 - sh)) = wd (put N v low) (i + 1) := by
  have hm64 : m < 18446744073709551616 := by
    have : 2 ^ db ≤ 2 ^ 64 := Nat.pow_le_pow_right (by decide) hdb
    have : 0 < 2 ^ db := Nat.pow_pos (by decide)
    omega
  apply Nat.eq_of_testBit_eq
  intro b
  rw [Nat.testBit_or, Nat.testBit_and, wd_bit, wd_bit, put_bit, comp_bit _ _ (Nat.lt_of_le_of_lt (Nat.div_le_self _ _) hm64), Nat.testBit_div_two_pow, Nat.testBit_div_two_pow, hm, Nat.testBit_two_pow_sub_one]
  have e : 64 * (i + 1) + b - low = b + (64 - sh) := by omega
  have e2 : low ≤ 64 * (i + 1) + b := by omega
  by_cases hb : b < 64
  · by_cases h2 : b + (64 - sh) < db
    · rw [hN (64 * (i + 1) + b) (by omega)]
      simp [hb, e, e2]
    · simp [hb, e, e2, h2]
  · have : v.testBit (b + (64 - sh)) = false := high hv (by omega)
    simp [hb, this]

/-- The other words stay. -/
theorem field_else (N v db low i sh j : Nat) (hlow : low = 64 * i + sh) (hv : v < 2 ^ db) (h : j < i ∨ low + db ≤ 64 * j) : wd (put N v low) j = wd N j := by
  apply Nat.eq_of_testBit_eq
  intro b
  rw [wd_bit, wd_bit, put_bit]
  by_cases hb : b < 64
  · by_cases e2 : low ≤ 64 * j + b
    · have : v.testBit (64 * j + b - low) = false := high hv (by omega)
      simp [this]
    · simp [e2]
  · simp [hb]

/-- One bit set. -/
theorem bit_word (N b : Nat) : wd N (b / 64) ||| 2 ^ (b % 64) = wd (put N 1 b) (b / 64) := by
  apply Nat.eq_of_testBit_eq
  intro c
  rw [Nat.testBit_or, wd_bit, wd_bit, put_bit, Nat.testBit_two_pow]
  by_cases hc : c < 64
  · by_cases e : c = b % 64
    · have e1 : 64 * (b / 64) + c = b := by omega
      rw [e1]
      simp [e]
      omega
    · have e1 : b % 64 ≠ c := fun h => e h.symm
      by_cases e2 : b ≤ 64 * (b / 64) + c
      · have : (1 : Nat).testBit (64 * (b / 64) + c - b) = false := high (n := 1) (by decide) (by omega)
        simp [this, e1, hc]
      · simp [e2, e1, hc]
  · have : b % 64 ≠ c := by omega
    simp [hc, this]

theorem bit_else (N b j : Nat) (h : j ≠ b / 64) : wd (put N 1 b) j = wd N j := by
  apply Nat.eq_of_testBit_eq
  intro c
  rw [wd_bit, wd_bit, put_bit]
  by_cases hc : c < 64
  · by_cases e2 : b ≤ 64 * j + c
    · have : (1 : Nat).testBit (64 * j + c - b) = false := high (n := 1) (by decide) (by omega)
      simp [this]
    · simp [e2]
  · simp [hc]

/-- The digit's bits one by one. -/
theorem step_one (N v k low : Nat) (h : v / 2 ^ k % 2 = 1) : put (put N (v % 2 ^ k) low) 1 (low + k) = put N (v % 2 ^ (k + 1)) low := by
  have hv : v.testBit k = true := by rw [Nat.testBit_eq_decide_div_mod_eq]; simp [h]
  apply Nat.eq_of_testBit_eq
  intro b
  simp only [put_bit, Nat.testBit_mod_two_pow]
  by_cases h1 : low ≤ b
  · by_cases h2 : b - low = k
    · have e : b = low + k := by omega
      subst e
      simp [hv]
    · by_cases h3 : low + k ≤ b
      · have : (1 : Nat).testBit (b - (low + k)) = false := high (n := 1) (by decide) (by omega)
        have e1 : ¬ (b - low < k) := by omega
        have e2 : ¬ (b - low < k + 1) := by omega
        simp [this, e1, e2]
      · have e1 : b - low < k := by omega
        have e2 : b - low < k + 1 := by omega
        simp [h3, e1, e2]
  · have : ¬ (low + k ≤ b) := by omega
    simp [h1, this]

theorem step_zero (N v k low : Nat) (h : v / 2 ^ k % 2 = 0) : put N (v % 2 ^ k) low = put N (v % 2 ^ (k + 1)) low := by
  have hv : v.testBit k = false := by rw [Nat.testBit_eq_decide_div_mod_eq]; simp [h]
  apply Nat.eq_of_testBit_eq
  intro b
  simp only [put_bit, Nat.testBit_mod_two_pow]
  by_cases h2 : b - low = k
  · simp [h2, hv]
  · by_cases e1 : b - low < k
    · have e2 : b - low < k + 1 := by omega
      simp [e1, e2]
    · have e2 : ¬ (b - low < k + 1) := by omega
      simp [e1, e2]

theorem put_zero (N low : Nat) : put N 0 low = N := by simp [put]

/-- The number that the first p digits of vs spell, in a space of 'width' bits. -/
def num (width db : Nat) (vs : List Nat) : Nat → Nat
  | 0 => 0
  | p + 1 => put (num width db vs p) (vs.getD p 0) (width - (p + 1) * db)

theorem num_low (width db : Nat) (vs : List Nat) : ∀ p b, b < width - p * db → (num width db vs p).testBit b = false := by
  intro p
  induction p with
  | zero => intro b _; simp [num]
  | succ p ih =>
    intro b hb
    have e : (p + 1) * db = p * db + db := by rw [Nat.add_mul, Nat.one_mul]
    rw [num, put_bit, ih b (by omega)]
    have : ¬ (width - (p + 1) * db ≤ b) := by omega
    simp [this]

end Go.Proofs.YbulkbdxgFmt.P
