import Derived.Test.YbulkbqagPlain
/-! Plain arithmetic: numbers of n bits laid one behind the other into a row of 64-bit words, and read back. No Go in sight. -/
namespace Go.Proofs.Ybulkbqag.plain

/-- The row W bears the first k of the numbers V, n bits each, and nothing else. -/
def Bears (W V : Nat → Nat) (n k : Nat) : Prop := ∀ p, (W (p / 64)).testBit (p % 64) = (decide (p < k * n) && (V (p / n)).testBit (p % n))

/-- The number v, laid at bit number 'bit'. -/
def lay (W : Nat → Nat) (bit n v : Nat) (j : Nat) : Nat :=
  if j = bit / 64 then W j ||| v * 2 ^ (bit % 64) % 2 ^ 64 else if j = bit / 64 + 1 ∧ 64 < bit % 64 + n then W j ||| v / 2 ^ (64 - bit % 64) else W j

theorem lay_testBit (W : Nat → Nat) (bit n v : Nat) (hv : v < 2 ^ n) (hn : n ≤ 64) (p : Nat) :
    (lay W bit n v (p / 64)).testBit (p % 64) = ((W (p / 64)).testBit (p % 64) || (decide (bit ≤ p) && v.testBit (p - bit))) := by
  have far : ∀ t, n ≤ t → v.testBit t = false := fun t ht => Nat.testBit_lt_two_pow (Nat.lt_of_lt_of_le hv (Nat.pow_le_pow_right (by decide) ht))
  unfold lay
  by_cases h1 : p / 64 = bit / 64
  · rw [if_pos h1, Nat.testBit_or, Nat.testBit_mod_two_pow, Nat.testBit_mul_two_pow]
    have h2 : p % 64 < 64 := by omega
    by_cases h3 : bit % 64 ≤ p % 64
    · have h4 : bit ≤ p := by omega
      have h5 : p % 64 - bit % 64 = p - bit := by omega
      simp [h2, h3, h4, h5]
    · have h4 : ¬ bit ≤ p := by omega
      simp [h3, h4]
  · rw [if_neg h1]
    by_cases h2 : p / 64 = bit / 64 + 1
    · have h4 : bit ≤ p := by omega
      by_cases h3 : 64 < bit % 64 + n
      · rw [if_pos ⟨h2, h3⟩, Nat.testBit_or, Nat.testBit_div_two_pow]
        have h5 : p % 64 + (64 - bit % 64) = p - bit := by omega
        simp [h4, h5]
      · rw [if_neg (fun h => h3 h.2), far (p - bit) (by omega)]
        simp
    · rw [if_neg (fun h => h2 h.1)]
      by_cases h4 : bit ≤ p
      · rw [far (p - bit) (by omega)]
        simp
      · simp [h4]

theorem lay_lt (W : Nat → Nat) (bit n v : Nat) (hW : ∀ j, W j < 2 ^ 64) (hv : v < 2 ^ 64) (j : Nat) : lay W bit n v j < 2 ^ 64 := by
  unfold lay
  split
  · exact Nat.or_lt_two_pow (hW j) (Nat.mod_lt _ (by decide))
  · split
    · exact Nat.or_lt_two_pow (hW j) (Nat.lt_of_le_of_lt (Nat.div_le_self _ _) hv)
    · exact hW j

theorem bears_zero (V : Nat → Nat) (n : Nat) : Bears (fun _ => 0) V n 0 := fun p => by simp

theorem bears_succ (W V : Nat → Nat) (n k : Nat) (hn : 1 ≤ n) (hn64 : n ≤ 64) (hv : V k < 2 ^ n) (h : Bears W V n k) : Bears (lay W (k * n) n (V k)) V n (k + 1) := by
  intro p
  rw [lay_testBit W (k * n) n (V k) hv hn64 p, h p]
  have e : (k + 1) * n = k * n + n := by rw [Nat.add_mul, Nat.one_mul]
  rw [e]
  by_cases h1 : p < k * n
  · have h2 : ¬ k * n ≤ p := by omega
    have h3 : p < k * n + n := by omega
    simp [h1, h2, h3]
  · have h2 : k * n ≤ p := by omega
    by_cases h3 : p < k * n + n
    · have h4 : p / n = k := by
        rw [Nat.div_eq_iff (by omega)]
        constructor <;> omega
      have h5 : p % n = p - k * n := by
        have := Nat.mod_add_div p n
        rw [h4, Nat.mul_comm] at this
        omega
      rw [h4, h5]
      simp [h1, h2, h3]
    · have h4 : (V k).testBit (p - k * n) = false := Nat.testBit_lt_two_pow (Nat.lt_of_lt_of_le hv (Nat.pow_le_pow_right (by decide) (by omega)))
      rw [h4]
      simp [h1, h3]

theorem bears_get (W V : Nat → Nat) (n k i : Nat) (hn : 1 ≤ n) (hv : V i < 2 ^ n) (h : Bears W V n k) (hi : i < k) : fld W (i * n) n = V i := by
  apply Nat.eq_of_testBit_eq
  intro t
  rw [fld_testBit]
  by_cases ht : t < n
  · rw [h (i * n + t)]
    have h1 : (i + 1) * n ≤ k * n := Nat.mul_le_mul_right n hi
    rw [Nat.add_mul, Nat.one_mul] at h1
    have h2 : i * n + t < k * n := by omega
    have h3 : (i * n + t) / n = i := by
      rw [Nat.div_eq_iff (by omega)]
      constructor <;> omega
    have h4 : (i * n + t) % n = t := by
      rw [Nat.mul_comm, Nat.mul_add_mod]
      exact Nat.mod_eq_of_lt ht
    rw [h3, h4]
    simp [ht, h2]
  · have h1 : (V i).testBit t = false := Nat.testBit_lt_two_pow (Nat.lt_of_lt_of_le hv (Nat.pow_le_pow_right (by decide) (by omega)))
    simp [ht, h1]
end Go.Proofs.Ybulkbqag.plain
