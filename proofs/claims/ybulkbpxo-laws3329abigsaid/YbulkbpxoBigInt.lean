import Derived.Test.YbulkbpxoBigLsh
namespace Go.Proofs.Ybulkbpxo.big
open Go.ChangeShapes Go.WideShapes Go.ChangeAt Go.RowKit
set_option linter.unusedVariables false
section
variable (b g L cap : Nat) (x : Int) (neg : Bool) (w : World)
theorem is_zero (h0 : w.cell? ⟨b, 0, none⟩ = some (.bool false)) (h1 : w.cell? ⟨b, 1, none⟩ = some (.slice none 0 0)) :
    Calls Yba.prog 19 #[.pointer (some ⟨b, 0, none⟩)] w fun e w' => e = .returned (.bool true) ∧ w' = w := by
  go_enter Yba.func19, Yba.ntmps19
  go_wp2_with (go_at_call 27; refine (low64_nil _).mono ?_; rintro e w' ⟨rfl, rfl⟩)
  go_ret
  exact ⟨rfl, rfl⟩
theorem is_long (hL : 2 ≤ L) (h0 : w.cell? ⟨b, 0, none⟩ = some (.bool neg)) (h1 : w.cell? ⟨b, 1, none⟩ = some (.slice (some ⟨g, 0, none⟩) L cap)) :
    Calls Yba.prog 19 #[.pointer (some ⟨b, 0, none⟩)] w fun e w' => e = .returned (.bool false) ∧ w' = w := by
  have hd : decide ((L : Int) ≤ 1) = false := by simp; omega
  go_enter Yba.func19, Yba.ntmps19
  go_wp2
  go_ret
  exact ⟨rfl, rfl⟩
theorem is_small (hx1 : 0 ≤ x) (hx2 : x < 9223372036854775808) (h0 : w.cell? ⟨b, 0, none⟩ = some (.bool neg)) (h1 : w.cell? ⟨b, 1, none⟩ = some (.slice (some ⟨g, 0, none⟩) 1 cap)) (h2 : w.cell? ⟨g, 0, none⟩ = some (.int .u64 x)) :
    Calls Yba.prog 19 #[.pointer (some ⟨b, 0, none⟩)] w fun e w' => e = .returned (.bool true) ∧ w' = w := by
  have hw : IntKind.i64.wrap x = x := by rw [IntKind.wrap_i64]; omega
  go_enter Yba.func19, Yba.ntmps19
  go_wp2_with (go_at_call 27; refine (low64_any g 1 cap x _ (by omega) h2).mono ?_; rintro e w' ⟨rfl, rfl⟩)
  go_ret
  exact ⟨rfl, rfl⟩
theorem wrap_hi (x : Int) (hx1 : 9223372036854775808 ≤ x) (hx2 : x < 18446744073709551616) : ∃ y, wrap64 x = y ∧ y < 0 := ⟨_, rfl, by unfold wrap64; omega⟩
theorem wrap_hi2 (x : Int) (hx1 : 9223372036854775808 < x) (hx2 : x < 18446744073709551616) : ∃ y, wrap64 x = y ∧ y < 0 ∧ -9223372036854775808 < y := ⟨_, rfl, by unfold wrap64; omega, by unfold wrap64; omega⟩
theorem wrap_min (x : Int) (hx1 : x = 9223372036854775808) : ∃ y, wrap64 x = y ∧ y < 0 ∧ wrap64 (-y) = y ∧ y = -9223372036854775808 := ⟨_, rfl, by unfold wrap64; omega, by unfold wrap64; omega, by unfold wrap64; omega⟩
theorem is_min (hx : Hid (x = 9223372036854775808)) (h0 : w.cell? ⟨b, 0, none⟩ = some (.bool true)) (h1 : w.cell? ⟨b, 1, none⟩ = some (.slice (some ⟨g, 0, none⟩) 1 cap)) (h2 : w.cell? ⟨g, 0, none⟩ = some (.int .u64 x)) :
    Calls Yba.prog 19 #[.pointer (some ⟨b, 0, none⟩)] w fun e w' => e = .returned (.bool true) ∧ w' = w := by
  obtain ⟨y, y1, y2, y3, y4⟩ := wrap_min x hx.out
  have y5 : (y == wrap64 (-y)) = true := by simpa using y3.symm
  clear y3 y4
  go_enter Yba.func19, Yba.ntmps19
  go_wp2_with (go_at_call 27; refine (low64_any g 1 cap _ _ (by omega) h2).mono ?_; rintro e w' ⟨rfl, rfl⟩)
  go_ret
  exact ⟨rfl, rfl⟩
theorem is_no_pos (hx1 : 9223372036854775808 ≤ x) (hx2 : x < 18446744073709551616) (h0 : w.cell? ⟨b, 0, none⟩ = some (.bool false)) (h1 : w.cell? ⟨b, 1, none⟩ = some (.slice (some ⟨g, 0, none⟩) 1 cap)) (h2 : w.cell? ⟨g, 0, none⟩ = some (.int .u64 x)) :
    Calls Yba.prog 19 #[.pointer (some ⟨b, 0, none⟩)] w fun e w' => e = .returned (.bool false) ∧ w' = w := by
  obtain ⟨y, y1, y2⟩ := wrap_hi x hx1 hx2
  have y3 : decide (0 ≤ y) = false := by simp; omega
  go_enter Yba.func19, Yba.ntmps19
  go_wp2_with (go_at_call 27; refine (low64_any g 1 cap x _ (by omega) h2).mono ?_; rintro e w' ⟨rfl, rfl⟩)
  go_ret
  exact ⟨rfl, rfl⟩
theorem is_no_neg (hx1 : 9223372036854775808 < x) (hx2 : x < 18446744073709551616) (h0 : w.cell? ⟨b, 0, none⟩ = some (.bool true)) (h1 : w.cell? ⟨b, 1, none⟩ = some (.slice (some ⟨g, 0, none⟩) 1 cap)) (h2 : w.cell? ⟨g, 0, none⟩ = some (.int .u64 x)) :
    Calls Yba.prog 19 #[.pointer (some ⟨b, 0, none⟩)] w fun e w' => e = .returned (.bool false) ∧ w' = w := by
  obtain ⟨y, y1, y2, y3⟩ := wrap_hi2 x hx1 hx2
  have y4 : decide (0 ≤ y) = false := by simp; omega
  have y5 : (y == -y) = false := by simp; omega
  go_enter Yba.func19, Yba.ntmps19
  go_wp2_with (go_at_call 27; refine (low64_any g 1 cap x _ (by omega) h2).mono ?_; rintro e w' ⟨rfl, rfl⟩)
  go_ret
  exact ⟨rfl, rfl⟩
theorem n_zero (h0 : w.cell? ⟨b, 0, none⟩ = some (.bool false)) (h1 : w.cell? ⟨b, 1, none⟩ = some (.slice none 0 0)) :
    Calls Yba.prog 20 #[.pointer (some ⟨b, 0, none⟩)] w fun e w' => e = .returned (.int .i64 0) ∧ w' = w := by
  go_enter Yba.func20, Yba.ntmps20
  go_wp2_with (go_at_call 27; refine (low64_nil _).mono ?_; rintro e w' ⟨rfl, rfl⟩)
  go_ret
  exact ⟨rfl, rfl⟩
theorem n_pos (hx1 : 0 ≤ x) (hx2 : x < 9223372036854775808) (h0 : w.cell? ⟨b, 0, none⟩ = some (.bool false)) (h1 : w.cell? ⟨b, 1, none⟩ = some (.slice (some ⟨g, 0, none⟩) 1 cap)) (h2 : w.cell? ⟨g, 0, none⟩ = some (.int .u64 x)) :
    Calls Yba.prog 20 #[.pointer (some ⟨b, 0, none⟩)] w fun e w' => e = .returned (.int .i64 x) ∧ w' = w := by
  have hw : IntKind.i64.wrap x = x := by rw [IntKind.wrap_i64]; omega
  go_enter Yba.func20, Yba.ntmps20
  go_wp2_with (go_at_call 27; refine (low64_any g 1 cap x _ (by omega) h2).mono ?_; rintro e w' ⟨rfl, rfl⟩)
  go_ret
  exact ⟨rfl, rfl⟩
theorem n_neg (hx1 : 0 ≤ x) (hx2 : x < 9223372036854775808) (h0 : w.cell? ⟨b, 0, none⟩ = some (.bool true)) (h1 : w.cell? ⟨b, 1, none⟩ = some (.slice (some ⟨g, 0, none⟩) 1 cap)) (h2 : w.cell? ⟨g, 0, none⟩ = some (.int .u64 x)) :
    Calls Yba.prog 20 #[.pointer (some ⟨b, 0, none⟩)] w fun e w' => e = .returned (.int .i64 (-x)) ∧ w' = w := by
  have hw : IntKind.i64.wrap x = x := by rw [IntKind.wrap_i64]; omega
  go_enter Yba.func20, Yba.ntmps20
  go_wp2_with (go_at_call 27; refine (low64_any g 1 cap x _ (by omega) h2).mono ?_; rintro e w' ⟨rfl, rfl⟩)
  go_ret
  exact ⟨rfl, rfl⟩
theorem n_min (hx : Hid (x = 9223372036854775808)) (h0 : w.cell? ⟨b, 0, none⟩ = some (.bool true)) (h1 : w.cell? ⟨b, 1, none⟩ = some (.slice (some ⟨g, 0, none⟩) 1 cap)) (h2 : w.cell? ⟨g, 0, none⟩ = some (.int .u64 x)) :
    Calls Yba.prog 20 #[.pointer (some ⟨b, 0, none⟩)] w fun e w' => ∃ y, e = .returned (.int .i64 y) ∧ y = -9223372036854775808 ∧ w' = w := by
  obtain ⟨y, y1, y2, y3, y4⟩ := wrap_min x hx.out
  have Y4 : Hid (wrap64 (-y) = -9223372036854775808) := y3.trans y4
  clear y3 y4
  go_enter Yba.func20, Yba.ntmps20
  go_wp2_with (go_at_call 27; refine (low64_any g 1 cap _ _ (by omega) h2).mono ?_; rintro e w' ⟨rfl, rfl⟩)
  go_ret
  exact ⟨_, rfl, Y4.out, rfl⟩
end
end Go.Proofs.Ybulkbpxo.big
