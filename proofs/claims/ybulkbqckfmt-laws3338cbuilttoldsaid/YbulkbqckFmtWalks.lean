import Derived.Test.YbulkbqckFmtRows
import Derived.Test.YbulkbqckFmtPlain
import Derived.Test.YbulkbqckFmtShelf
import Derived.WalkKit
import Derived.ProofKit
import Derived.OpenShut
import Derived.ShutString
import Derived.Below
import Derived.Laws.Externs
namespace Go.Proofs.YbulkbqckFmt.walks
open Go.ChangeShapes Go.WideShapes Go.ChangeAt Go.RowKit
set_option linter.unusedVariables false

theorem add64 (x y c : Nat) (hc : c ≤ 1) (w : World) : (callFunc 4 #[.int .u64 x, .int .u64 y, .int .u64 c]).run Ybaf.prog w =
    .ok (.value (.tuple #[.int .u64 (((x + y + c) % 18446744073709551616 : Nat) : Int), .int .u64 (((x + y + c) / 18446744073709551616 : Nat) : Int)])) w := by
  rw [run_callFunc_extern Ybaf.func4 (by kernel_rfl) (by kernel_rfl) (by kernel_rfl) (e := add64Entry) (by kernel_rfl), run_add64 x y c (by omega) (by omega) (by omega) (by omega)]
  simp only [Result.andThen]
  congr 5 <;> omega

set_option maxHeartbeats 400000 in
/-- zzs3338cmul: the product's two words. -/
theorem mul_any (a b p q : Nat) (ha : a < 2 ^ 64) (hb : b < 2 ^ 64) (hp : p = a * b / 18446744073709551616) (hq : q = a * b % 18446744073709551616) (w : World) :
    Calls Ybaf.prog 11 #[.int .u64 a, .int .u64 b] w fun e w' => e = .returned (.tuple #[.int .u64 p, .int .u64 q]) ∧ w' = w := by
  have HP : Hid (p = a * b / 18446744073709551616) := hp
  have HQ : Hid (q = a * b % 18446744073709551616) := hq
  clear hp hq
  have HA : Hid (a < 2 ^ 64) := ha
  have HB : Hid (b < 2 ^ 64) := hb
  clear ha hb
  go_enter Ybaf.func11, Ybaf.ntmps11
  go_wp2
  go_loop [6, 7, 8] (fun h l t => ∃ k hi lo : Nat, k ≤ 64 ∧ t = .int .u64 k ∧ h = .int .u64 hi ∧ l = .int .u64 lo ∧ Hid (lo < 2 ^ 64) ∧ Hid (hi * 2 ^ 64 + lo = a * (b % 2 ^ k))) (fun _ _ t => 64 - (intOf t).toNat)
  case atStart => exact ⟨0, 0, 0, by omega, rfl, rfl, rfl, by show (0 : Nat) < 2 ^ 64; decide, by show 0 * 2 ^ 64 + 0 = a * (b % 2 ^ 0); simp [Nat.mod_one]⟩
  case round =>
    obtain ⟨k, hi, lo, hk, rfl, rfl, rfl, H1, H2⟩ := hrel
    by_cases hlt : k < 64
    · have hlt' : (k : Int) < 64 := by omega
      by_cases hbit : b / 2 ^ k % 2 = 1
      · have e1 : bits BinOp.and IntKind.u64 ((b : Int) / 2 ^ k) 1 = 1 := by rw [plain.bit_and b k HB.out, hbit]; rfl
        obtain ⟨s, hs⟩ : ∃ s : Nat, s = a * 2 ^ k % 2 ^ 64 := ⟨_, rfl⟩
        obtain ⟨t, ht⟩ : ∃ t : Nat, t = a / 2 ^ (64 - k) := ⟨_, rfl⟩
        have e2 : IntKind.u64.wrap ((a : Int) * 2 ^ k) = (s : Int) := by rw [plain.shl_eq, hs]
        have e3 : ((a : Int) / 2 ^ (64 - k)) = (t : Int) := by rw [plain.shr_eq, ht]
        obtain ⟨l', hl'⟩ : ∃ l' : Nat, l' = (lo + s) % 2 ^ 64 := ⟨_, rfl⟩
        obtain ⟨c, hc⟩ : ∃ c : Nat, c = (lo + s) / 2 ^ 64 := ⟨_, rfl⟩
        obtain ⟨h', hh'⟩ : ∃ h' : Nat, h' = (hi + t + c) % 2 ^ 64 := ⟨_, rfl⟩
        have hc1 : c ≤ 1 := by have := H1.out; omega
        have k1 : ∀ w, (callFunc 4 #[.int .u64 lo, .int .u64 s, .int .u64 0]).run Ybaf.prog w = .ok (.value (.tuple #[.int .u64 l', .int .u64 c])) w := fun w => by rw [hl', hc]; exact add64 lo s 0 (by omega) w
        obtain ⟨c2, k2⟩ : ∃ c2 : Int, ∀ w, (callFunc 4 #[.int .u64 hi, .int .u64 t, .int .u64 c]).run Ybaf.prog w = .ok (.value (.tuple #[.int .u64 h', .int .u64 c2])) w := ⟨_, fun w => by rw [hh']; exact add64 hi t c hc1 w⟩
        have H3 : Hid (l' < 2 ^ 64) := by show l' < 2 ^ 64; rw [hl']; exact Nat.mod_lt _ (by decide)
        have H4 : Hid (h' * 2 ^ 64 + l' = a * (b % 2 ^ (k + 1))) := plain.mul_step a b k hi lo s t c l' h' HA.out HB.out hlt H2.out hbit hs ht hl' hc hh'
        clear hbit hs ht hl' hc hh' H1 H2
        go_wp2
        go_round
        case rel => exact ⟨k + 1, h', l', by omega, by go_num, rfl, rfl, H3, H4⟩
        case measure => simp [intOf]; omega
      · have hb0 : b / 2 ^ k % 2 = 0 := by omega
        have e1 : bits BinOp.and IntKind.u64 ((b : Int) / 2 ^ k) 1 = 0 := by rw [plain.bit_and b k HB.out, hb0]; rfl
        have H4 : Hid (hi * 2 ^ 64 + lo = a * (b % 2 ^ (k + 1))) := plain.mul_skip a b k hi lo H2.out hb0
        clear hbit hb0 H2
        go_wp2
        go_round
        case rel => exact ⟨k + 1, hi, lo, by omega, by go_num, rfl, rfl, H1, H4⟩
        case measure => simp [intOf]; omega
    · have hlt' : ¬ (k : Int) < 64 := by omega
      obtain rfl : k = 64 := by omega
      have H5 := plain.mul_end a b hi lo HB.out H1.out H2.out
      obtain rfl : hi = p := H5.1.trans HP.out.symm
      obtain rfl : lo = q := H5.2.trans HQ.out.symm
      clear H5 H2 H1
      go_wp2
      go_ret2
      exact ⟨rfl, rfl⟩
theorem mul64 (x y p q : Nat) (hx : x < 2 ^ 64) (hy : y < 2 ^ 64) (hp : p = x * y / 18446744073709551616) (hq : q = x * y % 18446744073709551616) (w : World) :
    Calls Ybaf.prog 10 #[.int .u64 x, .int .u64 y] w fun e w' => e = .returned (.tuple #[.int .u64 p, .int .u64 q]) ∧ w' = w := by
  rw [hp, hq]
  exact Ybaf.bits_Mul64 x y hx hy w

theorem ret_bool {a b : Bool} (h : a = b) : Ending.returned (.bool a) = .returned (.bool b) := by rw [h]
set_option maxHeartbeats 400000 in
/-- (Stakes).Reaches: 100 * x against t * total, by words. -/
theorem reaches_any (sl : Value) (x t total p1 q1 p2 q2 : Nat) (hx : x < 2 ^ 64) (ht : t < 2 ^ 64) (hT : total < 2 ^ 64) (hp1 : p1 = 100 * x / 18446744073709551616) (hq1 : q1 = 100 * x % 18446744073709551616)
    (hp2 : p2 = t * total / 18446744073709551616) (hq2 : q2 = t * total % 18446744073709551616) (w : World) :
    Calls Ybaf.prog 6 #[.agg #[sl, .int .u64 total], .int .u64 x, .int .u64 t] w fun e w' => e = .returned (.bool (plain.ge2 p1 q1 p2 q2)) ∧ ∃ cs, w' = w.alloc (.cells cs 27) := by
  have m1 := fun w => mul64 100 x p1 q1 (by decide) hx hp1 hq1 w
  have m2 := fun w => mul64 t total p2 q2 ht hT hp2 hq2 w
  have M1 : Hid (∀ w, Calls Ybaf.prog 10 #[.int .u64 100, .int .u64 x] w fun e w' => e = .returned (.tuple #[.int .u64 p1, .int .u64 q1]) ∧ w' = w) := m1
  have M2 : Hid (∀ w, Calls Ybaf.prog 10 #[.int .u64 t, .int .u64 total] w fun e w' => e = .returned (.tuple #[.int .u64 p2, .int .u64 q2]) ∧ w' = w) := m2
  clear m1 m2 hp1 hq1 hp2 hq2 hx ht hT
  go_enter Ybaf.func6, Ybaf.ntmps6
  go_wp2_with fail
  refine (M1.out _).mono ?_
  rintro e w' ⟨rfl, rfl⟩
  go_wp2_with fail
  refine (M2.out _).mono ?_
  rintro e w' ⟨rfl, rfl⟩
  rcases Nat.lt_trichotomy p2 p1 with h | h | h
  · have h' : (p2 : Int) < p1 := by omega
    go_wp2
    go_ret
    exact ⟨ret_bool (by simp [plain.ge2, h]), _, rfl⟩
  · subst h
    by_cases hq : q2 ≤ q1
    · have h' : (q2 : Int) ≤ q1 := by omega
      go_wp2
      go_ret
      exact ⟨ret_bool (by simp [plain.ge2, hq]), _, rfl⟩
    · have h' : decide ((q2 : Int) ≤ q1) = false := by simp; omega
      go_wp2
      go_ret
      exact ⟨ret_bool (by simp [plain.ge2, hq]), _, rfl⟩
  · have h1 : ¬ (p2 : Int) < p1 := by omega
    have h2 : ((p1 : Int) == p2) = false := by simp; omega
    go_wp2
    go_ret
    exact ⟨ret_bool (by have e1 : ¬ p2 < p1 := by omega
                        have e2 : ¬ p1 = p2 := by omega
                        simp [plain.ge2, e1, e2]), _, rfl⟩
set_option maxHeartbeats 400000 in
/-- zzs3338cmodel: 100 * x against t * total, by words. -/
theorem model_any (x t total p1 q1 p2 q2 : Nat) (hx : x < 2 ^ 64) (ht : t < 2 ^ 64) (hT : total < 2 ^ 64) (hp1 : p1 = 100 * x / 18446744073709551616) (hq1 : q1 = 100 * x % 18446744073709551616)
    (hp2 : p2 = t * total / 18446744073709551616) (hq2 : q2 = t * total % 18446744073709551616) (w : World) :
    Calls Ybaf.prog 7 #[.int .u64 x, .int .u64 t, .int .u64 total] w fun e w' => e = .returned (.bool (plain.ge2 p1 q1 p2 q2)) ∧ w' = w := by
  rw [Nat.mul_comm] at hp1 hq1 hp2 hq2
  have m1 := fun w => mul_any x 100 p1 q1 hx (by decide) hp1 hq1 w
  have m2 := fun w => mul_any total t p2 q2 hT ht hp2 hq2 w
  have M1 : Hid (∀ w, Calls Ybaf.prog 11 #[.int .u64 x, .int .u64 100] w fun e w' => e = .returned (.tuple #[.int .u64 p1, .int .u64 q1]) ∧ w' = w) := m1
  have M2 : Hid (∀ w, Calls Ybaf.prog 11 #[.int .u64 total, .int .u64 t] w fun e w' => e = .returned (.tuple #[.int .u64 p2, .int .u64 q2]) ∧ w' = w) := m2
  clear m1 m2 hp1 hq1 hp2 hq2 hx ht hT
  go_enter Ybaf.func7, Ybaf.ntmps7
  go_wp2_with fail
  refine (M1.out _).mono ?_
  rintro e w' ⟨rfl, rfl⟩
  go_wp2_with fail
  refine (M2.out _).mono ?_
  rintro e w' ⟨rfl, rfl⟩
  rcases Nat.lt_trichotomy p2 p1 with h | h | h
  · have h' : (p2 : Int) < p1 := by omega
    have h2 : ((p1 : Int) != p2) = true := by simp; omega
    go_wp2
    go_ret
    exact ⟨ret_bool (by simp [plain.ge2, h]), rfl⟩
  · subst h
    by_cases hq : q2 ≤ q1
    · have h' : (q2 : Int) ≤ q1 := by omega
      go_wp2
      go_ret
      exact ⟨ret_bool (by simp [plain.ge2, hq]), rfl⟩
    · have h' : decide ((q2 : Int) ≤ q1) = false := by simp; omega
      go_wp2
      go_ret
      exact ⟨ret_bool (by simp [plain.ge2, hq]), rfl⟩
  · have h1 : ¬ (p2 : Int) < p1 := by omega
    have h2 : ((p1 : Int) != p2) = true := by simp; omega
    go_wp2
    go_ret
    exact ⟨ret_bool (by have e1 : ¬ p2 < p1 := by omega
                        have e2 : ¬ p1 = p2 := by omega
                        simp [plain.ge2, e1, e2]), rfl⟩
end Go.Proofs.YbulkbqckFmt.walks
