import Derived.Test.YbulkbpxoBigInt
import Derived.RegionTactic
import Derived.ChangeAlike
import Derived.Deep.RegionWith
namespace Go.Proofs.Ybulkbpxo.big
open Go.ChangeShapes Go.WideShapes Go.ChangeAt Go.RowKit
set_option linter.unusedVariables false
theorem new_zero (w : World) : Calls Yba.prog 9 #[.int .i64 0] w fun e w' => e = .returned (.pointer (some ⟨w.heap.size, 0, none⟩)) ∧ w' = w.alloc (.cells #[.bool false, .slice none 0 0] 32) := by
  go_enter Yba.func9, Yba.ntmps9
  go_wp2
  go_ret
  exact ⟨rfl, rfl⟩
theorem new_pos (x : Int) (w : World) (hx1 : 1 ≤ x) (hx2 : x ≤ 9223372036854775807) : Calls Yba.prog 9 #[.int .i64 x] w fun e w' => ∃ u, 1 ≤ u ∧ u < 18446744073709551616 ∧ e = .returned (.pointer (some ⟨w.heap.size + 1, 0, none⟩)) ∧ w' = (w.alloc (.cells #[.int .u64 u] 40)).alloc (.cells #[.bool false, .slice (some ⟨w.heap.size, 0, none⟩) 1 1] 32) := by
  have e1 : IntKind.u64.wrap x = x := by rw [IntKind.wrap_u64]; omega
  have e2 : (x == 0) = false := by simp; omega
  have e3 : decide (x < 0) = false := by simp; omega
  go_enter Yba.func9, Yba.ntmps9
  go_wp2
  go_ret
  exact ⟨x, hx1, by omega, rfl, rfl⟩
theorem new_neg (x : Int) (w : World) (hx1 : x ≤ -1) (hx2 : -9223372036854775808 ≤ x) : Calls Yba.prog 9 #[.int .i64 x] w fun e w' => ∃ u, 1 ≤ u ∧ u < 18446744073709551616 ∧ e = .returned (.pointer (some ⟨w.heap.size + 1, 0, none⟩)) ∧ w' = (w.alloc (.cells #[.int .u64 u] 40)).alloc (.cells #[.bool true, .slice (some ⟨w.heap.size, 0, none⟩) 1 1] 32) := by
  have e1 : Hid (IntKind.u64.wrap (-IntKind.u64.wrap x) = -x) := by show IntKind.u64.wrap (-IntKind.u64.wrap x) = -x; rw [IntKind.wrap_u64, IntKind.wrap_u64]; omega
  have e2 : (x == 0) = false := by simp; omega
  go_enter Yba.func9, Yba.ntmps9
  go_wp2
  go_ret
  exact ⟨_, by rw [e1.out]; omega, by rw [e1.out]; omega, rfl, rfl⟩
def FbPost (sc : Int) (b : Nat) (neg : Bool) (w : World) (e : Ending) (w' : World) : Prop :=
  ∃ (v : Int) (q : Option Addr) (cs : Array Value), e = .returned (.agg #[.int .i64 v, .pointer q, .int .i64 sc]) ∧ ((q = none ∧ (neg = true → v < 0) ∧ (neg = false → 0 < v)) ∨ q = some ⟨b, 0, none⟩) ∧ w' = w.alloc (.cells cs 24)
section
variable (b g L cap : Nat) (x sc : Int) (neg : Bool) (w : World)
theorem fb_zero (h0 : w.cell? ⟨b, 0, none⟩ = some (.bool false)) (h1 : w.cell? ⟨b, 1, none⟩ = some (.slice none 0 0)) (hb : b < w.heap.size) :
    Calls Yba.prog 10 #[.pointer (some ⟨b, 0, none⟩), .int .i64 sc] w fun e w' => e = .returned (.agg #[.int .i64 0, .pointer none, .int .i64 sc]) ∧ ∃ cs : Array Value, w' = w.alloc (.cells cs 24) := by
  go_enter Yba.func10, Yba.ntmps10
  go_wp2_with (first | (go_at_call 19; refine (is_zero b _ ?_ ?_).mono ?_; (simp [go_sem, h0, hb]); (simp [go_sem, h1, hb]); rintro e w' ⟨rfl, rfl⟩) | (go_at_call 20; refine (n_zero b _ ?_ ?_).mono ?_; (simp [go_sem, h0, hb]); (simp [go_sem, h1, hb]); rintro e w' ⟨rfl, rfl⟩))
  simp [bodyPost, results, Yba.results10, go_sem]
  exact ⟨_, rfl⟩
theorem fb_no (hn : Calls Yba.prog 19 #[.pointer (some ⟨b, 0, none⟩)] (w.alloc (.cells #[.int .i64 0, .pointer none, .int .i64 0] 24)) fun e w' => e = .returned (.bool false) ∧ w' = w.alloc (.cells #[.int .i64 0, .pointer none, .int .i64 0] 24)) :
    Calls Yba.prog 10 #[.pointer (some ⟨b, 0, none⟩), .int .i64 sc] w (FbPost sc b neg w) := by
  have HN : Hid (Calls Yba.prog 19 #[.pointer (some ⟨b, 0, none⟩)] (w.alloc (.cells #[.int .i64 0, .pointer none, .int .i64 0] 24)) fun e w' => e = .returned (.bool false) ∧ w' = w.alloc (.cells #[.int .i64 0, .pointer none, .int .i64 0] 24)) := hn
  clear hn
  go_enter Yba.func10, Yba.ntmps10
  go_wp2_with (first | (go_at_call 19; refine HN.out.mono ?_; rintro e w' ⟨rfl, rfl⟩))
  simp [bodyPost, results, Yba.results10, go_sem]
  exact ⟨_, _, _, rfl, .inr rfl, rfl⟩
theorem fb_small_pos (hx1 : 1 ≤ x) (hx2 : x < 9223372036854775808) (h0 : w.cell? ⟨b, 0, none⟩ = some (.bool false)) (h1 : w.cell? ⟨b, 1, none⟩ = some (.slice (some ⟨g, 0, none⟩) 1 cap)) (h2 : w.cell? ⟨g, 0, none⟩ = some (.int .u64 x)) (hb : b < w.heap.size) (hg : g < w.heap.size) :
    Calls Yba.prog 10 #[.pointer (some ⟨b, 0, none⟩), .int .i64 sc] w (FbPost sc b false w) := by
  have e1 : (x != -9223372036854775808) = true := by simp; omega
  go_enter Yba.func10, Yba.ntmps10
  go_wp2_with (first | (go_at_call 19; refine (is_small b g cap x false _ (by omega) hx2 ?_ ?_ ?_).mono ?_; (simp [go_sem, h0, hb]); (simp [go_sem, h1, hb]); (simp [go_sem, h2, hg]); rintro e w' ⟨rfl, rfl⟩) | (go_at_call 20; refine (n_pos b g cap x _ (by omega) hx2 ?_ ?_ ?_).mono ?_; (simp [go_sem, h0, hb]); (simp [go_sem, h1, hb]); (simp [go_sem, h2, hg]); rintro e w' ⟨rfl, rfl⟩))
  simp [bodyPost, results, Yba.results10, go_sem]
  exact ⟨_, _, _, rfl, .inl ⟨rfl, fun h => by simp at h, fun _ => by omega⟩, rfl⟩
theorem fb_small_neg (hx1 : 1 ≤ x) (hx2 : x < 9223372036854775808) (h0 : w.cell? ⟨b, 0, none⟩ = some (.bool true)) (h1 : w.cell? ⟨b, 1, none⟩ = some (.slice (some ⟨g, 0, none⟩) 1 cap)) (h2 : w.cell? ⟨g, 0, none⟩ = some (.int .u64 x)) (hb : b < w.heap.size) (hg : g < w.heap.size) :
    Calls Yba.prog 10 #[.pointer (some ⟨b, 0, none⟩), .int .i64 sc] w (FbPost sc b true w) := by
  have e1 : (-x != -9223372036854775808) = true := by simp; omega
  go_enter Yba.func10, Yba.ntmps10
  go_wp2_with (first | (go_at_call 19; refine (is_small b g cap x true _ (by omega) hx2 ?_ ?_ ?_).mono ?_; (simp [go_sem, h0, hb]); (simp [go_sem, h1, hb]); (simp [go_sem, h2, hg]); rintro e w' ⟨rfl, rfl⟩) | (go_at_call 20; refine (n_neg b g cap x _ (by omega) hx2 ?_ ?_ ?_).mono ?_; (simp [go_sem, h0, hb]); (simp [go_sem, h1, hb]); (simp [go_sem, h2, hg]); rintro e w' ⟨rfl, rfl⟩))
  simp [bodyPost, results, Yba.results10, go_sem]
  exact ⟨_, _, _, rfl, .inl ⟨rfl, fun _ => by omega, fun h => by simp at h⟩, rfl⟩
theorem fb_min (hx : Hid (x = 9223372036854775808)) (h0 : w.cell? ⟨b, 0, none⟩ = some (.bool true)) (h1 : w.cell? ⟨b, 1, none⟩ = some (.slice (some ⟨g, 0, none⟩) 1 cap)) (h2 : w.cell? ⟨g, 0, none⟩ = some (.int .u64 x)) (hb : b < w.heap.size) (hg : g < w.heap.size) :
    Calls Yba.prog 10 #[.pointer (some ⟨b, 0, none⟩), .int .i64 sc] w (FbPost sc b true w) := by
  go_enter Yba.func10, Yba.ntmps10
  go_wp2_with (first | (go_at_call 19; refine (is_min b g cap x _ hx ?_ ?_ ?_).mono ?_; (simp [go_sem, h0, hb]); (simp [go_sem, h1, hb]); (simp [go_sem, h2, hg]); rintro e w' ⟨rfl, rfl⟩) | (go_at_call 20; refine (n_min b g cap x _ hx ?_ ?_ ?_).mono ?_; (simp [go_sem, h0, hb]); (simp [go_sem, h1, hb]); (simp [go_sem, h2, hg]); rintro e w' ⟨y, rfl, hy, rfl⟩; have e1 : (y != -9223372036854775808) = false := (by simpa using hy); clear hy))
  simp [bodyPost, results, Yba.results10, go_sem]
  exact ⟨_, _, _, rfl, .inr rfl, rfl⟩
end
end Go.Proofs.Ybulkbpxo.big
