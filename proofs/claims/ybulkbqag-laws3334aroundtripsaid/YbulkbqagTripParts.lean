import Derived.Test.YbulkbqagGet
import Derived.Test.YbulkbqagShelf
import Derived.Test.YbulkbqagTripPlain
import Derived.Lib.BitFns
import Derived.RegionTactic
import Derived.ChangeAlike
import Derived.WalkSmall
import Derived.Laws.MakeOwn
namespace Go.Proofs.Ybulkbqag.trip
open Go.ChangeShapes Go.WideShapes Go.ChangeAt Go.RowKit
set_option linter.unusedVariables false

/-- bits.Len gives bits enough. -/
theorem lt_bitLen : ∀ (k x : Nat), x < 2 ^ k → k ≤ 64 → x < 2 ^ Lib.bitLen x := by
  intro k
  induction k with
  | zero => intro x hx _; have : x = 0 := by omega
            subst this; decide
  | succ k ih =>
    intro x hx hk
    by_cases h0 : x = 0
    · subst h0; decide
    · rw [Lib.bitLen_half x h0 (Nat.lt_of_lt_of_le hx (Nat.pow_le_pow_right (by decide) hk)), Nat.add_comm, Nat.pow_succ]
      have := ih (x / 2) (by rw [Nat.pow_succ] at hx; omega) (by omega)
      omega
theorem bitLen_facts (x : Nat) (h1 : 1 ≤ x) (h2 : x < 2147483648) : 1 ≤ Lib.bitLen x ∧ Lib.bitLen x ≤ 31 ∧ x < 2 ^ Lib.bitLen x := by
  have h3 := lt_bitLen 31 x h2 (by decide)
  have h4 := Lib.bitLen_le x 31 (by decide) h2
  refine ⟨?_, h4, h3⟩
  rcases Nat.eq_zero_or_pos (Lib.bitLen x) with e | e
  · rw [e] at h3; omega
  · exact e

theorem info28 : (Yba.prog.info? 28).map (fun i => (i.zero, i.size, i.bytes)) = some (some (.int .u64 0), 1, 8) := by kernel_rfl
theorem mk22 (len : Nat) (hlen : len ≤ 1024) (w : World) : (Instr.makeSlice 22 (.int .i64 len) (.int .i64 len)).run Yba.prog w = .ok (.slice (some ⟨w.heap.size, 0, none⟩) len len) (w.alloc (.cells (madeCells #[.int .u64 0] len) 28)) := by
  obtain ⟨i0, hi, hz0, hz1, hz2⟩ := info_parts info28
  have h := run_make (P := Yba.prog) w 22 28 i0 (.int .u64 0) Yba.underlying22 hi hz0 .i64 .i64 len len (by omega) (by omega) (by rw [hz2]; omega) (by omega)
  rw [hz1] at h
  simpa [Value.cells] using h
theorem info21 : (Yba.prog.info? 21).map (fun i => (i.zero, i.size, i.bytes)) = some (some (.int .i32 0), 1, 4) := by kernel_rfl
theorem mk32 (len : Nat) (hlen : len ≤ 1024) (w : World) : (Instr.makeSlice 32 (.int .i64 len) (.int .i64 len)).run Yba.prog w = .ok (.slice (some ⟨w.heap.size, 0, none⟩) len len) (w.alloc (.cells (madeCells #[.int .i32 0] len) 21)) := by
  obtain ⟨i0, hi, hz0, hz1, hz2⟩ := info_parts info21
  have h := run_make (P := Yba.prog) w 32 21 i0 (.int .i32 0) Yba.underlying32 hi hz0 .i64 .i64 len len (by omega) (by omega) (by rw [hz2]; omega) (by omega)
  rw [hz1] at h
  simpa [Value.cells] using h
theorem made_cell (z : Value) (len j : Nat) (h : j < len) : (madeCells #[z] len)[j]? = some z := by
  simp [madeCells, h, Nat.mod_one]

theorem len_at (x n : Nat) (hx : x < 2147483648) (hn : Lib.bitLen x = n) (w : World) : Calls Yba.prog 8 #[.int .u64 x] w fun e w' => e = .returned (.int .i64 n) ∧ w' = w := by
  refine (Yba.bits_Len x w (by omega) (by omega)).mono ?_
  rintro e w' ⟨rfl, rfl⟩
  have : (x : Int).toNat = x := by omega
  rw [this, hn]
  exact ⟨rfl, rfl⟩
theorem len_0 (w : World) : Calls Yba.prog 8 #[.int .u64 0] w fun e w' => e = .returned (.int .i64 0) ∧ w' = w := len_at 0 0 (by decide) (by decide) w

/-- packedOf at limit 1. -/
theorem packed_zero (v : Value) (w : World) : Calls Yba.prog 7 #[v, .int .i64 1] w fun e w' => e = .returned (.agg #[.int .i64 0, .slice none 0 0]) ∧ Below w.heap.size w w' := by
  go_enter Yba.func7, Yba.ntmps7
  go_wp2_with (go_at_call 8; refine (len_0 _).mono ?_; rintro e w' ⟨rfl, rfl⟩)
  refine bodyPost_ret (v := .agg #[.int .i64 0, .slice none 0 0]) (by simp [results, Yba.results7, go_sem]) rfl ⟨rfl, ?_⟩
  exact ((Below.refl _ _).alloc (Nat.le_refl _) _).alloc (by simp) _

theorem wl_bd (len n : Nat) (hl : len ≤ 1024) (hn : n ≤ 31) : len * n ≤ 31744 := by
  have := Nat.mul_le_mul hl hn
  omega
theorem mul_eq (k n len : Nat) (hk : k ≤ len) (hl : len ≤ 1024) (hn : n ≤ 31) : wrap64 ((k : Int) * (n : Int)) = ((k * n : Nat) : Int) := by
  have h1 := wl_bd k n (by omega) hn
  have e : ((k : Int) * (n : Int)) = ((k * n : Nat) : Int) := by simp
  rw [e]
  unfold wrap64
  omega
end Go.Proofs.Ybulkbqag.trip
