import Derived.Laws.BitsAllLaws
import Derived.Laws.Bits64
/-! Plain arithmetic: a field of n bits that begins at bit number 'bit' of a row of 64-bit words. No Go in sight. -/
namespace Go.Proofs.Ybulkbqag.plain

/-- The field, gathered bit by bit, the lowest first. -/
def fld (W : Nat → Nat) (bit : Nat) : Nat → Nat
  | 0 => 0
  | k + 1 => fld W bit k ||| (W ((bit + k) / 64) / 2 ^ ((bit + k) % 64) % 2) * 2 ^ k

theorem testBit_bit (x p k : Nat) : (x / 2 ^ p % 2).testBit k = (decide (k = 0) && x.testBit p) := by
  have h := Nat.testBit_mod_two_pow (x / 2 ^ p) 1 k
  rw [Nat.pow_one] at h
  rw [h, Nat.testBit_div_two_pow]
  by_cases hk : k = 0
  · subst hk; simp
  · have : ¬ k < 1 := by omega
    simp [hk, this]

theorem fld_testBit (W : Nat → Nat) (bit n k : Nat) : (fld W bit n).testBit k = (decide (k < n) && (W ((bit + k) / 64)).testBit ((bit + k) % 64)) := by
  induction n with
  | zero => simp [fld]
  | succ n ih =>
    rw [fld, Nat.testBit_or, ih, Nat.testBit_mul_two_pow, testBit_bit]
    rcases Nat.lt_trichotomy k n with h | h | h
    · have h1 : ¬ n ≤ k := by omega
      have h2 : k < n + 1 := by omega
      simp [h, h1, h2]
    · subst h
      simp
    · have h1 : ¬ k < n := by omega
      have h2 : ¬ k - n = 0 := by omega
      have h3 : ¬ k < n + 1 := by omega
      simp [h1, h2, h3]

theorem fld_lt (W : Nat → Nat) (bit n : Nat) : fld W bit n < 2 ^ n := by
  apply Nat.lt_pow_two_of_testBit
  intro k hk
  rw [fld_testBit]
  have : ¬ k < n := by omega
  simp [this]

/-- The field lies within one word. -/
theorem fld_in (W : Nat → Nat) (bit n : Nat) (h : bit % 64 + n ≤ 64) : (W (bit / 64) / 2 ^ (bit % 64)) &&& (2 ^ n - 1) = fld W bit n := by
  apply Nat.eq_of_testBit_eq
  intro k
  rw [fld_testBit, Nat.testBit_and, Nat.testBit_div_two_pow, Nat.testBit_two_pow_sub_one]
  by_cases hk : k < n
  · have e1 : (bit + k) / 64 = bit / 64 := by omega
    have e2 : (bit + k) % 64 = bit % 64 + k := by omega
    rw [e1, e2]
    simp [hk, Nat.add_comm]
  · simp [hk]

/-- The field goes over into the next word. -/
theorem fld_over (W : Nat → Nat) (bit n : Nat) (hn : n ≤ 64) (hx : W (bit / 64) < 2 ^ 64) (h : 64 < bit % 64 + n) :
    (W (bit / 64) / 2 ^ (bit % 64) ||| W (bit / 64 + 1) * 2 ^ (64 - bit % 64) % 2 ^ 64) &&& (2 ^ n - 1) = fld W bit n := by
  apply Nat.eq_of_testBit_eq
  intro k
  rw [fld_testBit, Nat.testBit_and, Nat.testBit_or, Nat.testBit_div_two_pow, Nat.testBit_two_pow_sub_one, Nat.testBit_mod_two_pow, Nat.testBit_mul_two_pow]
  by_cases hk : k < n
  · by_cases hr : bit % 64 + k < 64
    · have e1 : (bit + k) / 64 = bit / 64 := by omega
      have e2 : (bit + k) % 64 = bit % 64 + k := by omega
      have e3 : ¬ 64 - bit % 64 ≤ k := by omega
      rw [e1, e2]
      simp [hk, e3, Nat.add_comm]
    · have e1 : (bit + k) / 64 = bit / 64 + 1 := by omega
      have e2 : (bit + k) % 64 = k - (64 - bit % 64) := by omega
      have e3 : 64 - bit % 64 ≤ k := by omega
      have e4 : k < 64 := by omega
      have e5 : (W (bit / 64)).testBit (bit % 64 + k) = false := Nat.testBit_lt_two_pow (Nat.lt_of_lt_of_le hx (Nat.pow_le_pow_right (by decide) (by omega)))
      have e5' : (W (bit / 64)).testBit (k + bit % 64) = false := by rw [Nat.add_comm]; exact e5
      rw [e1, e2]
      simp [hk, e3, e4, e5']
  · simp [hk]

/-! ### In the walk's own spelling (Int) -/
theorem mask (n : Nat) (h : n ≤ 64) : IntKind.u64.wrap (IntKind.u64.wrap (2 ^ n) - 1) = ((2 ^ n - 1 : Nat) : Int) := by
  have hp : 1 ≤ 2 ^ n := Nat.one_le_two_pow
  have e0 : ((2 : Int) ^ n) = ((2 ^ n : Nat) : Int) := by simp
  rw [IntKind.wrap_u64, IntKind.wrap_u64, e0]
  rcases Nat.lt_or_ge n 64 with h' | h'
  · have : 2 ^ n < 2 ^ 64 := Nat.pow_lt_pow_right (by decide) h'
    omega
  · obtain rfl : n = 64 := by omega
    decide

theorem get_in (W : Nat → Nat) (bit n : Nat) (hn : n ≤ 64) (hx : W (bit / 64) < 2 ^ 64) (h : bit % 64 + n ≤ 64) :
    bits BinOp.and IntKind.u64 ((W (bit / 64) : Int) / 2 ^ (bit % 64)) (IntKind.u64.wrap (IntKind.u64.wrap (2 ^ n) - 1)) = (fld W bit n : Int) := by
  have hp : 1 ≤ 2 ^ n := Nat.one_le_two_pow
  have hq : 2 ^ n ≤ 2 ^ 64 := Nat.pow_le_pow_right (by decide) hn
  have e1 : ((W (bit / 64) : Int) / 2 ^ (bit % 64)) = ((W (bit / 64) / 2 ^ (bit % 64) : Nat) : Int) := by simp
  have h1 : W (bit / 64) / 2 ^ (bit % 64) < 2 ^ 64 := Nat.lt_of_le_of_lt (Nat.div_le_self _ _) hx
  rw [mask n hn, e1, u64_and_nat _ _ (by omega) (by omega), fld_in W bit n h]

theorem get_over (W : Nat → Nat) (bit n : Nat) (hn : n ≤ 64) (hx : W (bit / 64) < 2 ^ 64) (h : 64 < bit % 64 + n) :
    bits BinOp.and IntKind.u64 (bits BinOp.or IntKind.u64 ((W (bit / 64) : Int) / 2 ^ (bit % 64)) (IntKind.u64.wrap ((W (bit / 64 + 1) : Int) * 2 ^ (64 - bit % 64)))) (IntKind.u64.wrap (IntKind.u64.wrap (2 ^ n) - 1)) = (fld W bit n : Int) := by
  have hp : 1 ≤ 2 ^ n := Nat.one_le_two_pow
  have hq : 2 ^ n ≤ 2 ^ 64 := Nat.pow_le_pow_right (by decide) hn
  have e1 : ((W (bit / 64) : Int) / 2 ^ (bit % 64)) = ((W (bit / 64) / 2 ^ (bit % 64) : Nat) : Int) := by simp
  have e2 : IntKind.u64.wrap ((W (bit / 64 + 1) : Int) * 2 ^ (64 - bit % 64)) = ((W (bit / 64 + 1) * 2 ^ (64 - bit % 64) % 2 ^ 64 : Nat) : Int) := by
    rw [IntKind.wrap_u64]
    simp
  have h1 : W (bit / 64) / 2 ^ (bit % 64) < 2 ^ 64 := Nat.lt_of_le_of_lt (Nat.div_le_self _ _) hx
  have h2 : W (bit / 64 + 1) * 2 ^ (64 - bit % 64) % 2 ^ 64 < 2 ^ 64 := Nat.mod_lt _ (by decide)
  have h3 : (W (bit / 64) / 2 ^ (bit % 64) ||| W (bit / 64 + 1) * 2 ^ (64 - bit % 64) % 2 ^ 64) < 2 ^ 64 := Nat.or_lt_two_pow h1 h2
  rw [mask n hn, e1, e2, u64_or_nat _ _ (by omega) (by omega), u64_and_nat _ _ (by omega) (by omega), fld_over W bit n hn hx h]

/-- One round of the model's loop. -/
theorem fld_succ (W : Nat → Nat) (bit k : Nat) (hk : k < 64) (hx : W ((bit + k) / 64) < 2 ^ 64) :
    bits BinOp.or IntKind.u64 (fld W bit k : Int) (IntKind.u64.wrap (bits BinOp.and IntKind.u64 ((W ((bit + k) / 64) : Int) / 2 ^ ((bit + k) % 64)) 1 * 2 ^ k)) = (fld W bit (k + 1) : Int) := by
  have e1 : ((W ((bit + k) / 64) : Int) / 2 ^ ((bit + k) % 64)) = ((W ((bit + k) / 64) / 2 ^ ((bit + k) % 64) : Nat) : Int) := by simp
  have h1 : W ((bit + k) / 64) / 2 ^ ((bit + k) % 64) < 2 ^ 64 := Nat.lt_of_le_of_lt (Nat.div_le_self _ _) hx
  have e2 : bits BinOp.and IntKind.u64 ((W ((bit + k) / 64) : Int) / 2 ^ ((bit + k) % 64)) 1 = ((W ((bit + k) / 64) / 2 ^ ((bit + k) % 64) % 2 : Nat) : Int) := by
    rw [e1]
    have := u64_and_nat (W ((bit + k) / 64) / 2 ^ ((bit + k) % 64)) 1 (by omega) (by omega)
    rw [nat_mask1] at this
    exact this
  have hpk : 2 ^ k ≤ 2 ^ 63 := Nat.pow_le_pow_right (by decide) (by omega)
  have h2 : W ((bit + k) / 64) / 2 ^ ((bit + k) % 64) % 2 * 2 ^ k ≤ 2 ^ 63 := by
    rcases Nat.mod_two_eq_zero_or_one (W ((bit + k) / 64) / 2 ^ ((bit + k) % 64)) with e | e <;> rw [e] <;> simp [hpk]
  have e3 : IntKind.u64.wrap (((W ((bit + k) / 64) / 2 ^ ((bit + k) % 64) % 2 : Nat) : Int) * 2 ^ k) = ((W ((bit + k) / 64) / 2 ^ ((bit + k) % 64) % 2 * 2 ^ k : Nat) : Int) := by
    have e4 : (((W ((bit + k) / 64) / 2 ^ ((bit + k) % 64) % 2 : Nat) : Int) * 2 ^ k) = ((W ((bit + k) / 64) / 2 ^ ((bit + k) % 64) % 2 * 2 ^ k : Nat) : Int) := by simp
    rw [IntKind.wrap_u64, e4]
    omega
  have h4 : fld W bit k < 2 ^ 64 := Nat.lt_of_lt_of_le (fld_lt W bit k) (Nat.pow_le_pow_right (by decide) (by omega))
  rw [e2, e3, u64_or_nat _ _ (by omega) (by omega)]
  rfl
end Go.Proofs.Ybulkbqag.plain
