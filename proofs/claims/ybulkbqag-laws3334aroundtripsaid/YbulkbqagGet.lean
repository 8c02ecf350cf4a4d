import Derived.Test.YbulkbqagRows
import Derived.Test.YbulkbqagPlain
import Derived.WalkKit
import Derived.ProofKit
import Derived.OpenShut
import Derived.ShutString
import Derived.ChangeOld
import Derived.Below
namespace Go.Proofs.Ybulkbqag.get
open Go.ChangeShapes Go.WideShapes Go.ChangeAt Go.RowKit
set_option linter.unusedVariables false

theorem ret_int {k : IntKind} {a b : Int} (h : a = b) : Ending.returned (.int k a) = .returned (.int k b) := by rw [h]

/-- '(packed).get' at width 0. -/
theorem get_zero (i : Int) (v : Value) (w : World) : Calls Yba.prog 5 #[.agg #[.int .i64 0, v], .int .i64 i] w fun e w' => e = .returned (.int .i32 0) ∧ ∃ cs, w' = w.alloc (.cells cs 25) := by
  go_enter Yba.func5, Yba.ntmps5
  go_wp2
  go_ret
  exact ⟨rfl, _, rfl⟩
theorem get_in (wd i bit x : Int) (g len cap : Nat) (w : World) (h1 : 1 ≤ wd) (h2 : wd ≤ 64) (hmul : wrap64 (i * wd) = bit) (hb0 : 0 ≤ bit) (hb1 : bit ≤ 65535) (hin : bit / 64 < len) (hg : g < w.heap.size)
    (hc : w.cell? ⟨g, (bit / 64).toNat, none⟩ = some (.int .u64 x)) (hlt : bit % 64 + wd ≤ 64) :
    Calls Yba.prog 5 #[.agg #[.int .i64 wd, .slice (some ⟨g, 0, none⟩) len cap], .int .i64 i] w fun e w' =>
      e = .returned (.int .i32 (wrap32 (bits BinOp.and IntKind.u64 (x / 2 ^ (bit % 64).toNat) (IntKind.u64.wrap (IntKind.u64.wrap (2 ^ wd.toNat) - 1))))) ∧ ∃ cs, w' = w.alloc (.cells cs 25) := by
  have h0 : (wd == 0) = false := by simp; omega
  go_enter Yba.func5, Yba.ntmps5
  go_wp2
  go_ret
  exact ⟨rfl, _, rfl⟩
theorem get_over (wd i bit x y : Int) (g len cap : Nat) (w : World) (h1 : 1 ≤ wd) (h2 : wd ≤ 64) (hmul : wrap64 (i * wd) = bit) (hb0 : 0 ≤ bit) (hb1 : bit ≤ 65535) (hin : bit / 64 + 1 < len) (hg : g < w.heap.size)
    (hc : w.cell? ⟨g, (bit / 64).toNat, none⟩ = some (.int .u64 x)) (hc1 : w.cell? ⟨g, (bit / 64 + 1).toNat, none⟩ = some (.int .u64 y)) (hlt : 64 < bit % 64 + wd) :
    Calls Yba.prog 5 #[.agg #[.int .i64 wd, .slice (some ⟨g, 0, none⟩) len cap], .int .i64 i] w fun e w' =>
      e = .returned (.int .i32 (wrap32 (bits BinOp.and IntKind.u64 (bits BinOp.or IntKind.u64 (x / 2 ^ (bit % 64).toNat) (IntKind.u64.wrap (y * 2 ^ (64 - bit % 64).toNat))) (IntKind.u64.wrap (IntKind.u64.wrap (2 ^ wd.toNat) - 1))))) ∧ ∃ cs, w' = w.alloc (.cells cs 25) := by
  have h0 : (wd == 0) = false := by simp; omega
  go_enter Yba.func5, Yba.ntmps5
  go_wp2
  go_ret
  exact ⟨rfl, _, rfl⟩

theorem mul_bd (i n L : Nat) (h : i * n + n ≤ 64 * L) (hL : L ≤ 1024) (hn : 1 ≤ n) : wrap64 ((i : Int) * (n : Int)) = ((i * n : Nat) : Int) := by
  have e : ((i : Int) * (n : Int)) = ((i * n : Nat) : Int) := by simp
  rw [e]
  unfold wrap64
  omega

/-- '(packed).get' at a width of 1 to 64: the field, as an int32. -/
theorem get_any (n i g len cap : Nat) (W : Nat → Nat) (w : World) (hn1 : 1 ≤ n) (hn2 : n ≤ 64) (hfit : i * n + n ≤ 64 * len) (hlen : len ≤ 1024) (hg : g < w.heap.size)
    (hc : ∀ j, j < len → w.cell? ⟨g, j, none⟩ = some (.int .u64 (W j))) (hW : ∀ j, W j < 2 ^ 64) :
    Calls Yba.prog 5 #[.agg #[.int .i64 n, .slice (some ⟨g, 0, none⟩) len cap], .int .i64 i] w fun e w' => e = .returned (.int .i32 (wrap32 (plain.fld W (i * n) n))) ∧ ∃ cs, w' = w.alloc (.cells cs 25) := by
  have hm := mul_bd i n len hfit hlen hn1
  have hq : (((i * n : Nat) : Int) / 64).toNat = i * n / 64 := by omega
  have hq1 : (((i * n : Nat) : Int) / 64 + 1).toNat = i * n / 64 + 1 := by omega
  have hr : (((i * n : Nat) : Int) % 64).toNat = i * n % 64 := by omega
  have hr1 : (64 - ((i * n : Nat) : Int) % 64).toNat = 64 - i * n % 64 := by omega
  have hnn : (n : Int).toNat = n := by omega
  by_cases h : i * n % 64 + n ≤ 64
  · refine (get_in n i ((i * n : Nat) : Int) (W (i * n / 64)) g len cap w (by omega) (by omega) hm (by omega) (by omega) (by omega) hg (by rw [hq]; exact hc _ (by omega)) (by omega)).mono ?_
    rintro e w' ⟨rfl, hw⟩
    exact ⟨ret_int (by rw [hr, hnn, plain.get_in W (i * n) n hn2 (hW _) h]), hw⟩
  · refine (get_over n i ((i * n : Nat) : Int) (W (i * n / 64)) (W (i * n / 64 + 1)) g len cap w (by omega) (by omega) hm (by omega) (by omega) (by omega) hg (by rw [hq]; exact hc _ (by omega)) (by rw [hq1]; exact hc _ (by omega)) (by omega)).mono ?_
    rintro e w' ⟨rfl, hw⟩
    exact ⟨ret_int (by rw [hr, hr1, hnn, plain.get_over W (i * n) n hn2 (hW _) (by omega)]), hw⟩
end Go.Proofs.Ybulkbqag.get
