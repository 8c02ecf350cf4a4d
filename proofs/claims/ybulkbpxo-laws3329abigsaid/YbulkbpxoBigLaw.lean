import Derived.Test.YbulkbpxoBigMeth
namespace Go.Proofs.Ybulkbpxo.big
open Go.ChangeShapes Go.WideShapes Go.ChangeAt Go.RowKit
set_option linter.unusedVariables false
set_option maxHeartbeats 1000000 in
theorem walk_pos (a0 a1 a2 : Int) (h01 : 1 ≤ a0) (h02 : a0 ≤ 9223372036854775807) (h11 : 0 ≤ a1) (h12 : a1 ≤ 255) (h21 : 0 ≤ a2) (h22 : a2 ≤ 255) (w : World) :
    Calls Yba.prog 4 #[.int .i64 a0, .int .u8 a1, .int .u8 a2] w fun e w' => e = .returned (.bool true) ∧ Below w.heap.size w w' := by
  go_enter Yba.func4, Yba.ntmps4
  go_wp2_with (first | (go_at_call 9; refine (new_pos a0 _ h01 h02).mono ?_; rintro e w' ⟨u, hu1, hu2, rfl, rfl⟩))
  refine (Lsh_word w.heap.size (w.heap.size + 1 + 1) (w.heap.size + 1) u (a1 % 128) false _ (by omega) (by omega) hu1 hu2 ?_ ?_ ?_ ?_ ?_ ?_ ?_ ?_ ?_ ?_ ?_).mono ?_
  · simp [go_sem]
  · simp [go_sem]
  · simp [go_sem]
  · simp [go_sem]
  · simp [go_sem]
  · simp [go_sem]
  · simp [go_sem]
  · simp; omega
  · simp
  · simp
  · omega
  rintro e w2 ⟨g, L, cap, x, rfl, l1, l2, l3, l4, l5, l6, L7, L8⟩
  have l7 : Hid (L = 1 → x ≠ 0) := L7
  have hB : w.heap.size < w2.heap.size := lt_of_cell l2
  have hBel : Below w.heap.size w w2 := ((((Below.refl _ _).alloc (Nat.le_refl _) _).alloc (by simp) _).alloc (by simp; omega) _).trans L8
  have HBel : Hid (Below w.heap.size w w2) := hBel
  have hsz : w.heap.size ≤ w2.heap.size := by omega
  have hL0 : ((L : Int) == 0) = false := by simp; omega
  clear L7 L8 hBel
  go_wp2_with fail
  refine (fb_word w.heap.size g L cap x a2 false _ l1 l5 l6 l7.out l2 l3 l4).mono ?_
  rintro e w3 ⟨v, q, cs, rfl, hq, rfl⟩
  rcases hq with ⟨rfl, hq1, hq2⟩ | rfl
  · have hv : 0 < v := hq2 rfl
    clear hq1 hq2
    go_wp2
    go_ret
    exact ⟨rfl, by repeat (first | exact HBel.out | refine Below.alloc ?_ (by first | (simp; done) | (simp; omega) | omega) _)⟩
  · have hB1 : w.heap.size < w2.heap.size + 1 := by omega
    have hB2 : w.heap.size < w2.heap.size + 1 + 1 := by omega
    go_wp2
    go_ret
    exact ⟨rfl, by repeat (first | exact HBel.out | refine Below.alloc ?_ (by first | (simp; done) | (simp; omega) | omega) _)⟩
set_option maxHeartbeats 1000000 in
theorem walk_neg (a0 a1 a2 : Int) (h01 : a0 ≤ -1) (h02 : -9223372036854775808 ≤ a0) (h11 : 0 ≤ a1) (h12 : a1 ≤ 255) (h21 : 0 ≤ a2) (h22 : a2 ≤ 255) (w : World) :
    Calls Yba.prog 4 #[.int .i64 a0, .int .u8 a1, .int .u8 a2] w fun e w' => e = .returned (.bool true) ∧ Below w.heap.size w w' := by
  go_enter Yba.func4, Yba.ntmps4
  go_wp2_with (first | (go_at_call 9; refine (new_neg a0 _ h01 h02).mono ?_; rintro e w' ⟨u, hu1, hu2, rfl, rfl⟩))
  refine (Lsh_word w.heap.size (w.heap.size + 1 + 1) (w.heap.size + 1) u (a1 % 128) true _ (by omega) (by omega) hu1 hu2 ?_ ?_ ?_ ?_ ?_ ?_ ?_ ?_ ?_ ?_ ?_).mono ?_
  · simp [go_sem]
  · simp [go_sem]
  · simp [go_sem]
  · simp [go_sem]
  · simp [go_sem]
  · simp [go_sem]
  · simp [go_sem]
  · simp; omega
  · simp
  · simp
  · omega
  rintro e w2 ⟨g, L, cap, x, rfl, l1, l2, l3, l4, l5, l6, L7, L8⟩
  have l7 : Hid (L = 1 → x ≠ 0) := L7
  have hB : w.heap.size < w2.heap.size := lt_of_cell l2
  have hBel : Below w.heap.size w w2 := ((((Below.refl _ _).alloc (Nat.le_refl _) _).alloc (by simp) _).alloc (by simp; omega) _).trans L8
  have HBel : Hid (Below w.heap.size w w2) := hBel
  have hsz : w.heap.size ≤ w2.heap.size := by omega
  have hL0 : ((L : Int) == 0) = false := by simp; omega
  clear L7 L8 hBel
  go_wp2_with fail
  refine (fb_word w.heap.size g L cap x a2 true _ l1 l5 l6 l7.out l2 l3 l4).mono ?_
  rintro e w3 ⟨v, q, cs, rfl, hq, rfl⟩
  rcases hq with ⟨rfl, hq1, hq2⟩ | rfl
  · have hv : v < 0 := hq1 rfl
    clear hq1 hq2
    go_wp2
    go_ret
    exact ⟨rfl, by repeat (first | exact HBel.out | refine Below.alloc ?_ (by first | (simp; done) | (simp; omega) | omega) _)⟩
  · have hB1 : w.heap.size < w2.heap.size + 1 := by omega
    have hB2 : w.heap.size < w2.heap.size + 1 + 1 := by omega
    go_wp2
    go_ret
    exact ⟨rfl, by repeat (first | exact HBel.out | refine Below.alloc ?_ (by first | (simp; done) | (simp; omega) | omega) _)⟩
set_option maxHeartbeats 1000000 in
theorem walk_zero (a1 a2 : Int) (h11 : 0 ≤ a1) (h12 : a1 ≤ 255) (h21 : 0 ≤ a2) (h22 : a2 ≤ 255) (w : World) :
    Calls Yba.prog 4 #[.int .i64 0, .int .u8 a1, .int .u8 a2] w fun e w' => e = .returned (.bool true) ∧ Below w.heap.size w w' := by
  go_enter Yba.func4, Yba.ntmps4
  go_wp2_with (first | (go_at_call 9; refine (new_zero _).mono ?_; rintro e w' ⟨rfl, rfl⟩))
  refine (Lsh_zero w.heap.size (w.heap.size + 1) (a1 % 128) _ ?_ ?_ ?_ ?_ ?_ ?_ ?_ ?_ ?_).mono ?_
  · simp [go_sem]
  · simp [go_sem]
  · simp [go_sem]
  · simp [go_sem]
  · simp [go_sem]
  · simp [go_sem]
  · simp; omega
  · simp
  · omega
  rintro e w2 ⟨rfl, l2, l3, L8⟩
  have hB : w.heap.size < w2.heap.size := lt_of_cell l2
  have hBel : Below w.heap.size w w2 := (((Below.refl _ _).alloc (Nat.le_refl _) _).alloc (by simp) _).trans L8
  have HBel : Hid (Below w.heap.size w w2) := hBel
  clear L8 hBel
  go_wp2_with fail
  refine (fb_zero w.heap.size a2 _ l2 l3 hB).mono ?_
  rintro e w3 ⟨rfl, cs, rfl⟩
  go_wp2
  go_ret
  exact ⟨rfl, by repeat (first | exact HBel.out | refine Below.alloc ?_ (by first | (simp; done) | (simp; omega) | omega) _)⟩
end Go.Proofs.Ybulkbpxo.big
