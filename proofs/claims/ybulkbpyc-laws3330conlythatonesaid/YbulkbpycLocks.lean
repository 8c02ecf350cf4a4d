import Derived.Test.YbulkbpycRows
import Derived.WalkKit
import Derived.ProofKit
import Derived.OpenShut
import Derived.ShutString
import Derived.Laws.LoneSync
import Derived.Below
namespace Go.Proofs.Ybulkbpyc.locks
open Go.ChangeShapes Go.WideShapes Go.ChangeAt Go.RowKit
set_option linter.unusedVariables false

theorem disable (w : World) : (callFunc 12 #[]).run Yba.prog w = .ok (.value (.tuple #[])) w := run_call_mark0 Yba.func12 (by kernel_rfl) (by kernel_rfl) (by kernel_rfl) .disable (by kernel_rfl) w
theorem enable (w : World) : (callFunc 13 #[]).run Yba.prog w = .ok (.value (.tuple #[])) w := run_call_mark0 Yba.func13 (by kernel_rfl) (by kernel_rfl) (by kernel_rfl) .enable (by kernel_rfl) w
theorem acquire (a : Addr) (w : World) : (callFunc 15 #[.pointer (some a)]).run Yba.prog w = .ok (.value (.tuple #[])) w := run_call_marked Yba.func15 (by kernel_rfl) (by kernel_rfl) (by kernel_rfl) .acquire (by kernel_rfl) a w
theorem releaseMerge (a : Addr) (w : World) : (callFunc 16 #[.pointer (some a)]).run Yba.prog w = .ok (.value (.tuple #[])) w := run_call_marked Yba.func16 (by kernel_rfl) (by kernel_rfl) (by kernel_rfl) .releaseMerge (by kernel_rfl) a w
theorem cas_hit {a : Addr} {w : World} (x y : Int) (hc : w.cell? a = some (.int .i32 x)) (hz : w.frozen? a = false) : (callFunc 14 #[.pointer (some a), .int .i32 x, .int .i32 y]).run Yba.prog w = .ok (.value (.bool true)) (w.setCell a (.int .i32 y)) :=
  run_call_cas_hit Yba.func14 (by kernel_rfl) (by kernel_rfl) (by kernel_rfl) .i32 (by kernel_rfl) hc hz
theorem add_dec {a : Addr} {w : World} (hc : w.cell? a = some (.int .i32 1)) (hz : w.frozen? a = false) : (callFunc 17 #[.pointer (some a), .int .i32 (-1)]).run Yba.prog w = .ok (.value (.int .i32 0)) (w.setCell a (.int .i32 0)) :=
  run_call_add Yba.func17 (by kernel_rfl) (by kernel_rfl) (by kernel_rfl) .i32 (by kernel_rfl) hc hz (by simp [go_sem, IntKind.wrap_i32])
/-- A pointer to a mutex turned into the bare pointer type (what the race detector's marks are handed): the same address; nothing is made. -/
theorem conv {a : Addr} {v : Value} {w : World} (hc : w.cell? a = some v) : (convert 34 38 (.pointer (some a))).run Yba.prog w = .ok (.pointer (some a)) w := by
  obtain ⟨e, n, hsh, hlt, hsp⟩ := World.shape?_of_cell? hc
  have hge : ¬ (n ≤ a.off) := by omega
  have hz := Yba.sizeOf26
  have h1 := run_underlying Yba.underlying34
  have h2 := run_underlying Yba.underlying38
  simp only [convert, Sem.run_bind, h1, h2, Result.andThen]
  change Sem.run Yba.prog (_ >>= _) w = _
  simp [Conv.seenAt, viewAt, cellsIn, h1, h2, hsh, hge, hz, Result.andThen]
theorem not_any (x : Bool) (w : World) : (Op.unary .not (.bool x)).run Yba.prog w = .ok (.bool (!x)) w := rfl

/-- TryLock, the mutex free: true; the state word is 1. -/
theorem try_free (b : Nat) (w : World) (hc : w.cell? ⟨b, 0, none⟩ = some (.int .i32 0)) (hz : w.frozen? ⟨b, 0, none⟩ = false) :
    Calls Yba.prog 6 #[.pointer (some ⟨b, 0, none⟩)] w fun e w' => e = .returned (.bool true) ∧ w' = w.setCell ⟨b, 0, none⟩ (.int .i32 1) := by
  have k1 := disable
  have k2 := enable
  have k3 := acquire
  have k4 := cas_hit 0 1 hc hz
  have k5 := conv (World.cell?_setCell_same w ⟨b, 0, none⟩ (.int .i32 1) hc)
  have k6 := not_any
  have k7 : bits .and .i32 0 5 = 0 := by decide
  have k8 : bits .or .i32 0 1 = 1 := by decide
  go_enter Yba.func6, Yba.ntmps6
  go_wp2
  go_ret
  exact ⟨rfl, rfl⟩
/-- TryLock, the mutex held: false; nothing turns. -/
theorem try_held (b : Nat) (w : World) (hc : w.cell? ⟨b, 0, none⟩ = some (.int .i32 1)) :
    Calls Yba.prog 6 #[.pointer (some ⟨b, 0, none⟩)] w fun e w' => e = .returned (.bool false) ∧ w' = w := by
  have k1 := disable
  have k2 := enable
  have k7 : bits .and .i32 1 5 = 1 := by decide
  go_enter Yba.func6, Yba.ntmps6
  go_wp2
  go_ret
  exact ⟨rfl, rfl⟩
/-- Unlock, the mutex held, nobody waiting: the state word is 0. -/
theorem unlock_held (b : Nat) (w : World) (hc : w.cell? ⟨b, 0, none⟩ = some (.int .i32 1)) (hz : w.frozen? ⟨b, 0, none⟩ = false) :
    Calls Yba.prog 7 #[.pointer (some ⟨b, 0, none⟩)] w fun e w' => e = .returned (.tuple #[]) ∧ w' = w.setCell ⟨b, 0, none⟩ (.int .i32 0) := by
  have k1 := disable
  have k2 := enable
  have k3 := releaseMerge
  have k4 := add_dec hc hz
  have k5 := conv hc
  go_enter Yba.func7, Yba.ntmps7
  go_wp2
  go_end0
  go_wp2
  go_end0
  exact ⟨rfl, rfl⟩
/-- lock, the mutex free: it did not wait; the state word is 1. -/
theorem lock_free (b : Nat) (w : World) (hc : w.cell? ⟨b, 0, none⟩ = some (.int .i32 0)) (hz : w.frozen? ⟨b, 0, none⟩ = false) :
    Calls Yba.prog 5 #[.pointer (some ⟨b, 0, none⟩)] w fun e w' => e = .returned (.bool false) ∧ w' = w.setCell ⟨b, 0, none⟩ (.int .i32 1) := by
  go_enter Yba.func5, Yba.ntmps5
  go_wp2_with (go_at_call 6; refine (try_free b _ hc hz).mono ?_; rintro e w' ⟨rfl, rfl⟩)
  go_ret
  exact ⟨rfl, rfl⟩
end Go.Proofs.Ybulkbpyc.locks
