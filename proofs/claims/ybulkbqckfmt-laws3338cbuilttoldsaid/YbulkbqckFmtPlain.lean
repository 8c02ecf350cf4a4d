import Derived.Laws.BitsAllLaws
import Derived.Laws.Bits64
/-! Plain arithmetic: a product of two words, by shift and add. No Go in sight. -/
namespace Go.Proofs.YbulkbqckFmt.plain

theorem carry_out (hi t lo s c lo' hi' : Nat) (h : (hi + t) * 2 ^ 64 + (lo + s) < 2 ^ 64 * 2 ^ 64) (hlo' : lo' = (lo + s) % 2 ^ 64) (hc : c = (lo + s) / 2 ^ 64) (hhi' : hi' = (hi + t + c) % 2 ^ 64) : hi' * 2 ^ 64 + lo' = (hi + t) * 2 ^ 64 + (lo + s) := by
  have hM : (2 : Nat) ^ 64 = 18446744073709551616 := by decide
  rw [hM] at *
  omega
/-- One round of shift and add in which the bit is set. -/
theorem mul_step (a b i hi lo s t c lo' hi' : Nat) (ha : a < 2 ^ 64) (hb : b < 2 ^ 64) (hi64 : i < 64) (h : hi * 2 ^ 64 + lo = a * (b % 2 ^ i)) (hbit : b / 2 ^ i % 2 = 1)
    (hs : s = a * 2 ^ i % 2 ^ 64) (ht : t = a / 2 ^ (64 - i)) (hlo' : lo' = (lo + s) % 2 ^ 64) (hc : c = (lo + s) / 2 ^ 64) (hhi' : hi' = (hi + t + c) % 2 ^ 64) :
    hi' * 2 ^ 64 + lo' = a * (b % 2 ^ (i + 1)) := by
  have e1 : b % 2 ^ (i + 1) = b % 2 ^ i + 2 ^ i := by
    rw [Nat.mod_pow_succ, hbit, Nat.mul_one]
  have e2 : a * 2 ^ i = t * 2 ^ 64 + s := by
    have : a * 2 ^ i / 2 ^ 64 = t := by
      have e : (2 : Nat) ^ 64 = 2 ^ i * 2 ^ (64 - i) := by rw [← Nat.pow_add]; congr 1; omega
      rw [e, Nat.mul_comm a, Nat.mul_div_mul_left _ _ (Nat.two_pow_pos i), ht]
    have h2 := Nat.div_add_mod (a * 2 ^ i) (2 ^ 64)
    rw [this, ← hs] at h2
    omega
  have e3 : a * (b % 2 ^ (i + 1)) = (hi + t) * 2 ^ 64 + (lo + s) := by
    rw [e1, Nat.mul_add, ← h, e2, Nat.add_mul]
    exact Nat.add_add_add_comm _ _ _ _
  have e4 : a * (b % 2 ^ (i + 1)) < 2 ^ 64 * 2 ^ 64 := by
    have h1 : b % 2 ^ (i + 1) ≤ b := Nat.mod_le _ _
    have h2 : a * (b % 2 ^ (i + 1)) ≤ a * b := Nat.mul_le_mul_left a h1
    have h3 : a * b < 2 ^ 64 * 2 ^ 64 := Nat.mul_lt_mul'' ha hb
    omega
  rw [e3] at e4 ⊢
  clear e1 e2 e3 h hbit hs ht hb ha hi64
  exact carry_out hi t lo s c lo' hi' e4 hlo' hc hhi'

/-- One round in which the bit is not set. -/
theorem mul_skip (a b i hi lo : Nat) (h : hi * 2 ^ 64 + lo = a * (b % 2 ^ i)) (hbit : b / 2 ^ i % 2 = 0) : hi * 2 ^ 64 + lo = a * (b % 2 ^ (i + 1)) := by
  rw [Nat.mod_pow_succ, hbit, Nat.mul_zero, Nat.add_zero]
  exact h

theorem mul_end (a b hi lo : Nat) (hb : b < 2 ^ 64) (hlo : lo < 2 ^ 64) (h : hi * 2 ^ 64 + lo = a * (b % 2 ^ 64)) : hi = a * b / 18446744073709551616 ∧ lo = a * b % 18446744073709551616 := by
  rw [Nat.mod_eq_of_lt hb] at h
  rw [← h]
  omega

/-! ### In the walk's own spelling -/
theorem bit_and (b k : Nat) (hb : b < 2 ^ 64) : bits BinOp.and IntKind.u64 ((b : Int) / 2 ^ k) 1 = ((b / 2 ^ k % 2 : Nat) : Int) := by
  have e1 : ((b : Int) / 2 ^ k) = ((b / 2 ^ k : Nat) : Int) := by simp
  have h1 : b / 2 ^ k < 2 ^ 64 := Nat.lt_of_le_of_lt (Nat.div_le_self _ _) hb
  rw [e1]
  have := u64_and_nat (b / 2 ^ k) 1 (by omega) (by omega)
  rw [nat_mask1] at this
  exact this
theorem shl_eq (a k : Nat) : IntKind.u64.wrap ((a : Int) * 2 ^ k) = ((a * 2 ^ k % 2 ^ 64 : Nat) : Int) := by
  rw [IntKind.wrap_u64]
  simp
theorem shr_eq (a k : Nat) : ((a : Int) / 2 ^ k) = ((a / 2 ^ k : Nat) : Int) := by simp

/-- Which of two products is the greater: by words, and by words in the model's order. -/
def ge2 (hi lo thi tlo : Nat) : Bool := decide (thi < hi) || (decide (hi = thi) && decide (tlo ≤ lo))
end Go.Proofs.YbulkbqckFmt.plain
