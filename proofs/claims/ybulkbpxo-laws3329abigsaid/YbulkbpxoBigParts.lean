import Derived.Test.YbulkbpxoRows
import Derived.WalkKit
import Derived.ProofKit
import Derived.OpenShut
import Derived.ShutString
import Derived.WalkSpells
import Derived.Deep.QuietTactic
import Derived.BigQuiet
import Derived.Laws.Twins
import Derived.Lib.SliceRun
import Derived.Laws.IdiomCopy
import Derived.Laws.BitsAllLaws
import Derived.Below
namespace Go.Proofs.Ybulkbpxo.big
open Go.ChangeShapes Go.WideShapes Go.ChangeAt Go.RowKit
set_option linter.unusedVariables false

theorem mk1 (w : World) : (Instr.makeSlice 30 (.int .i64 1) (.int .i64 1)).run Yba.prog w = .ok (.slice (some ⟨w.heap.size, 0, none⟩) 1 1) (w.alloc (.cells #[.int .u64 0] 40)) := by kernel_rfl
theorem mk2 (w : World) : (Instr.makeSlice 30 (.int .i64 2) (.int .i64 6)).run Yba.prog w = .ok (.slice (some ⟨w.heap.size, 0, none⟩) 2 6) (w.alloc (.cells #[.int .u64 0, .int .u64 0, .int .u64 0, .int .u64 0, .int .u64 0, .int .u64 0] 40)) := by kernel_rfl
theorem mk3 (w : World) : (Instr.makeSlice 30 (.int .i64 3) (.int .i64 7)).run Yba.prog w = .ok (.slice (some ⟨w.heap.size, 0, none⟩) 3 7) (w.alloc (.cells #[.int .u64 0, .int .u64 0, .int .u64 0, .int .u64 0, .int .u64 0, .int .u64 0, .int .u64 0] 40)) := by kernel_rfl
theorem lshVU_enters (args : Array Value) (w : World) : (callFunc 25 args).run Yba.prog w = .ok (.enter 14 args) w :=
  run_callFunc_twin (twin := Yba.f14.name) Yba.func25 (by kernel_rfl) (by kernel_rfl) (by kernel_rfl) (by kernel_rfl) Yba.func14 (by kernel_rfl) (by kernel_rfl) (by kernel_rfl) args w

/-- same(nil, x): false. -/
theorem same_nil0 (w : World) : Calls Yba.prog 21 #[.slice none 0 0, .slice none 0 0] w fun e w' => e = .returned (.bool false) ∧ ∃ n, w' = w.drewN n := by
  go_enter Yba.func21, Yba.ntmps21
  go_wp2
  go_quiet (fail)
  go_wp2
  go_ret
  exact ⟨rfl, _, rfl⟩
theorem same_nil1 (a : Option Addr) (w : World) : Calls Yba.prog 21 #[.slice none 0 0, .slice a 1 1] w fun e w' => e = .returned (.bool false) ∧ ∃ n, w' = w.drewN n := by
  go_enter Yba.func21, Yba.ntmps21
  go_wp2
  go_quiet (fail)
  go_wp2
  go_ret
  exact ⟨rfl, _, rfl⟩
theorem alias_nil (a : Option Addr) (n c : Nat) (w : World) : Calls Yba.prog 22 #[.slice none 0 0, .slice a n c] w fun e w' => e = .returned (.bool false) ∧ ∃ n, w' = w.drewN n := by
  go_enter Yba.func22, Yba.ntmps22
  go_wp2
  go_quiet (fail)
  go_wp2
  go_ret
  exact ⟨rfl, _, rfl⟩
theorem make_0 (w : World) : Calls Yba.prog 24 #[.slice none 0 0, .int .i64 0] w fun e w' => e = .returned (.slice none 0 0) ∧ w' = w := by
  go_enter Yba.func24, Yba.ntmps24
  go_wp2
  go_ret
  exact ⟨rfl, rfl⟩
theorem make_1 (w : World) : Calls Yba.prog 24 #[.slice none 0 0, .int .i64 1] w fun e w' => e = .returned (.slice (some ⟨w.heap.size, 0, none⟩) 1 1) ∧ w' = w.alloc (.cells #[.int .u64 0] 40) := by
  have h := mk1
  go_enter Yba.func24, Yba.ntmps24
  go_wp2
  go_ret
  exact ⟨rfl, rfl⟩
theorem make_2 (w : World) : Calls Yba.prog 24 #[.slice none 0 0, .int .i64 2] w fun e w' => e = .returned (.slice (some ⟨w.heap.size, 0, none⟩) 2 6) ∧ w' = w.alloc (.cells #[.int .u64 0, .int .u64 0, .int .u64 0, .int .u64 0, .int .u64 0, .int .u64 0] 40) := by
  have h := mk2
  go_enter Yba.func24, Yba.ntmps24
  go_wp2
  go_ret
  exact ⟨rfl, rfl⟩
theorem make_3 (w : World) : Calls Yba.prog 24 #[.slice none 0 0, .int .i64 3] w fun e w' => e = .returned (.slice (some ⟨w.heap.size, 0, none⟩) 3 7) ∧ w' = w.alloc (.cells #[.int .u64 0, .int .u64 0, .int .u64 0, .int .u64 0, .int .u64 0, .int .u64 0, .int .u64 0] 40) := by
  have h := mk3
  go_enter Yba.func24, Yba.ntmps24
  go_wp2
  go_ret
  exact ⟨rfl, rfl⟩
theorem size40 : (Yba.prog.info? 40).map (·.size) = some 1 := by kernel_rfl
theorem zero40 (w : World) : (zeroValue 40).run Yba.prog w = .ok (.int .u64 0) w := by kernel_rfl
theorem cp0 (w : World) : (Builtin.copy_ #[30, 30] 3 #[.slice none 0 0, .slice none 0 0]).run Yba.prog w = .ok (.int .i64 0) w :=
  run_copy_none (P := Yba.prog) w 30 30 3 40 none none 0 0 0 0 Yba.underlying30 size40 rfl
theorem cp1 (w : World) (b : Nat) (u : Int) (h : w.cell? ⟨b, 0, none⟩ = some (.int .u64 u)) (hb : b < w.heap.size) :
    (Builtin.copy_ #[30, 30] 3 #[.slice (some ⟨w.heap.size, 0, none⟩) 1 1, .slice (some ⟨b, 0, none⟩) 1 1]).run Yba.prog (w.alloc (.cells #[.int .u64 0] 40)) = .ok (.int .i64 1) (w.alloc (.cells #[.int .u64 u] 40)) := by
  have h' : (w.alloc (.cells #[.int .u64 0] 40)).cell? ⟨b, 0, none⟩ = some (.int .u64 u) := by rw [World.cell?_alloc_past _ _ _ hb]; exact h
  have := run_copy_cells (P := Yba.prog) (w.alloc (.cells #[.int .u64 0] 40)) 30 30 3 40 w.heap.size 0 1 1 ⟨b, 0, none⟩ 1 1 [.int .u64 u] Yba.underlying30 size40 rfl
    (by intro j v hj; match j, hj with | 0, hj => simp at hj; subst hj; exact h')
    (by intro j hj; simp at hj; subst hj; rw [World.cell?_alloc_at _ _ _ _ rfl]; rfl)
    (by intro j hj; simp at hj; subst hj; rw [World.frozen?_alloc_at _ _ _ _ rfl])
    (by intro v hv; simp at hv; subst hv; rfl)
  rw [this]
  simp [World.setCells, goInt, World.setCell_alloc_at]
theorem cp64 (w : World) (b : Nat) (u : Int) (h : w.cell? ⟨b, 0, none⟩ = some (.int .u64 u)) (hb : b < w.heap.size) :
    (Builtin.copy_ #[30, 30] 3 #[.slice (some ⟨w.heap.size, 1, none⟩) 1 6, .slice (some ⟨b, 0, none⟩) 1 1]).run Yba.prog (w.alloc (.cells #[.int .u64 0, .int .u64 0, .int .u64 0, .int .u64 0, .int .u64 0, .int .u64 0, .int .u64 0] 40)) = .ok (.int .i64 1) (w.alloc (.cells #[.int .u64 0, .int .u64 u, .int .u64 0, .int .u64 0, .int .u64 0, .int .u64 0, .int .u64 0] 40)) := by
  have h' : (w.alloc (.cells #[.int .u64 0, .int .u64 0, .int .u64 0, .int .u64 0, .int .u64 0, .int .u64 0, .int .u64 0] 40)).cell? ⟨b, 0, none⟩ = some (.int .u64 u) := by rw [World.cell?_alloc_past _ _ _ hb]; exact h
  have := run_copy_cells (P := Yba.prog) (w.alloc (.cells #[.int .u64 0, .int .u64 0, .int .u64 0, .int .u64 0, .int .u64 0, .int .u64 0, .int .u64 0] 40)) 30 30 3 40 w.heap.size 1 1 6 ⟨b, 0, none⟩ 1 1 [.int .u64 u] Yba.underlying30 size40 rfl
    (by intro j v hj; match j, hj with | 0, hj => simp at hj; subst hj; exact h')
    (by intro j hj; simp at hj; subst hj; rw [World.cell?_alloc_at _ _ _ _ rfl]; rfl)
    (by intro j hj; simp at hj; subst hj; rw [World.frozen?_alloc_at _ _ _ _ rfl])
    (by intro v hv; simp at hv; subst hv; rfl)
  rw [this]
  simp [World.setCells, goInt, World.setCell_alloc_at]
theorem clr0 (w : World) (a : Addr) (c : Nat) : (Builtin.clear_ #[30] 0 #[.slice (some a) 0 c]).run Yba.prog w = .ok (.tuple #[]) w := by
  kernel_rfl
theorem clr1 (w : World) (x y z : Value) (p q r s : Value) : (Builtin.clear_ #[30] 0 #[.slice (some ⟨w.heap.size, 0, none⟩) 1 7]).run Yba.prog (w.alloc (.cells #[x, y, z, p, q, r, s] 40)) = .ok (.tuple #[]) (w.alloc (.cells #[.int .u64 0, y, z, p, q, r, s] 40)) := by
  have := Lib.run_clear_slice (P := Yba.prog) (w.alloc (.cells #[x, y, z, p, q, r, s] 40)) 30 40 0 (.int .u64 0) Yba.underlying30 zero40 rfl rfl w.heap.size 0 1 7 (by decide)
    (by intro j hj; simp at hj; subst hj; rw [World.cell?_alloc_at _ _ _ _ rfl]; rfl)
    (by intro j hj; simp at hj; subst hj; rw [World.frozen?_alloc_at _ _ _ _ rfl])
  rw [this]
  simp [World.setCells, List.replicate, World.setCell_alloc_at]

theorem set_0 (w : World) : Calls Yba.prog 23 #[.slice none 0 0, .slice none 0 0] w fun e w' => e = .returned (.slice none 0 0) ∧ w' = w := by
  have h := cp0
  go_enter Yba.func23, Yba.ntmps23
  go_wp2_with (first | (go_at_call 24; refine (make_0 _).mono ?_; rintro e w' ⟨rfl, rfl⟩))
  go_ret
  exact ⟨rfl, rfl⟩
theorem set_1 (b : Nat) (u : Int) (w : World) (hc : w.cell? ⟨b, 0, none⟩ = some (.int .u64 u)) (hb : b < w.heap.size) : Calls Yba.prog 23 #[.slice none 0 0, .slice (some ⟨b, 0, none⟩) 1 1] w fun e w' => e = .returned (.slice (some ⟨w.heap.size, 0, none⟩) 1 1) ∧ w' = w.alloc (.cells #[.int .u64 u] 40) := by
  have h := cp1 w b u hc hb
  go_enter Yba.func23, Yba.ntmps23
  go_wp2_with (first | (go_at_call 24; refine (make_1 _).mono ?_; rintro e w' ⟨rfl, rfl⟩))
  go_ret
  exact ⟨rfl, rfl⟩
theorem and63 (s : Int) (h1 : 0 ≤ s) (h2 : s ≤ 63) : bits BinOp.and IntKind.u64 s 63 = s := by
  rw [u64_and s 63 h1 (by omega) (by decide) (by decide)]
  have : (63 : Int).toNat = 63 := rfl
  rw [this, nat_mask6]
  omega
theorem lshVU_1 (g bx o cz cx : Nat) (u s z : Int) (w : World) (hs1 : 1 ≤ s) (hs2 : s ≤ 63) (hu1 : 1 ≤ u) (hu2 : u < 18446744073709551616) (hc : w.cell? ⟨bx, 0, none⟩ = some (.int .u64 u)) (hz : w.cell? ⟨g, o, none⟩ = some (.int .u64 z)) (hf : w.frozen? ⟨g, o, none⟩ = false) :
    Calls Yba.prog 14 #[.slice (some ⟨g, o, none⟩) 1 cz, .slice (some ⟨bx, 0, none⟩) 1 cx, .int .u64 s] w fun e w' => e = .returned (.int .u64 (u / 2 ^ (64 - s).toNat)) ∧ w' = w.setCell ⟨g, o, none⟩ (.int .u64 (IntKind.u64.wrap (u * 2 ^ s.toNat))) := by
  have e1 := and63 s (by omega) hs2
  have e2 := and63 (64 - s) (by omega) (by omega)
  have e3 : IntKind.u64.wrap (64 - s) = 64 - s := by rw [IntKind.wrap_u64]; omega
  have e4 : (s == 0) = false := by simp; omega
  have e5 : min s.toNat 64 = s.toNat := by omega
  have e6 : min (64 - s).toNat 64 = (64 - s).toNat := by omega
  go_enter Yba.func14, Yba.ntmps14
  go_wp2
  refine wp_loop_rounds 1 ?_
  rw [rounds_succ]
  go_wp2
  go_ret
  exact ⟨rfl, rfl⟩
set_option maxHeartbeats 1000000 in
/-- norm: the leading words that are zero are cut off. -/
theorem norm_any (g L cap : Nat) (f : Nat → Int) (w : World) (hL : L ≤ cap) (hcap : cap ≤ 7) (hc : ∀ j, j < L → w.cell? ⟨g, j, none⟩ = some (.int .u64 (f j))) :
    Calls Yba.prog 26 #[.slice (some ⟨g, 0, none⟩) L cap] w fun e w' => ∃ k : Nat, k ≤ L ∧ e = .returned (.slice (some ⟨g, 0, none⟩) k cap) ∧ (∀ m, k = m + 1 → f m ≠ 0) ∧ (∀ j, k ≤ j → j < L → f j = 0) ∧ w' = w := by
  go_enter Yba.func26, Yba.ntmps26
  go_wp2
  go_loop [3] (fun i => ∃ k : Nat, k ≤ L ∧ i = .int .i64 k ∧ Hid (∀ j, k ≤ j → j < L → f j = 0)) (fun i => (intOf i).toNat)
  case atStart => exact ⟨L, Nat.le_refl _, rfl, fun j h1 h2 => by omega⟩
  case round =>
    obtain ⟨k, hk, rfl, hz⟩ := hrel
    by_cases h0 : 0 < k
    · obtain ⟨m, rfl⟩ : ∃ m, k = m + 1 := ⟨k - 1, by omega⟩
      have hcm := hc m (by omega)
      by_cases h1 : f m = 0
      · have HC : w.cell? ⟨g, m, none⟩ = some (.int .u64 0) := by rw [hcm, h1]
        have H1 : Hid (f m = 0) := h1
        clear hcm hc h1
        go_wp2
        go_round
        case rel => exact ⟨m, by omega, rfl, fun j h1 h2 => by by_cases e : j = m; subst e; exact H1.out; exact hz.out j (by omega) h2⟩
        case measure => simp [intOf]
      · have h2 : (f m == 0) = false := by simpa using h1
        have H1 : Hid (¬ f m = 0) := h1
        clear hc h1
        go_wp2
        go_ret
        exact ⟨m + 1, hk, rfl, fun q hq => by obtain rfl : m = q := by omega
                                              exact H1.out, hz.out, rfl⟩
    · obtain rfl : k = 0 := by omega
      clear hc
      go_wp2
      go_ret
      exact ⟨0, by omega, rfl, fun q hq => by omega, hz.out, rfl⟩
/-- low64: the lowest word. -/
theorem low64_nil (w : World) : Calls Yba.prog 27 #[.slice none 0 0] w fun e w' => e = .returned (.int .u64 0) ∧ w' = w := by
  go_enter Yba.func27, Yba.ntmps27
  go_wp2
  go_ret
  exact ⟨rfl, rfl⟩
theorem low64_any (g L cap : Nat) (u : Int) (w : World) (h1 : 1 ≤ L) (hc : w.cell? ⟨g, 0, none⟩ = some (.int .u64 u)) : Calls Yba.prog 27 #[.slice (some ⟨g, 0, none⟩) L cap] w fun e w' => e = .returned (.int .u64 u) ∧ w' = w := by
  have hl : (0 : Int) < (L : Int) := by omega
  have hl2 : ((L : Int) == 0) = false := by simp; omega
  go_enter Yba.func27, Yba.ntmps27
  go_wp2
  go_ret
  exact ⟨rfl, rfl⟩
theorem lsh_nil_0 (w : World) : Calls Yba.prog 18 #[.slice none 0 0, .slice none 0 0, .int .u64 0] w fun e w' => e = .returned (.slice none 0 0) ∧ ∃ n, w' = w.drewN n := by
  go_enter Yba.func18, Yba.ntmps18
  go_wp2_with (first | (go_at_call 21; refine (same_nil0 _).mono ?_; rintro e w' ⟨rfl, n1, rfl⟩) | (go_at_call 22; refine (alias_nil _ _ _ _).mono ?_; rintro e w' ⟨rfl, n2, rfl⟩) | (go_at_call 23; refine (set_0 _).mono ?_; rintro e w' ⟨rfl, rfl⟩))
  go_ret
  exact ⟨rfl, _, rfl⟩
theorem lsh_nil_s (s : Int) (h : (s == 0) = false) (w : World) : Calls Yba.prog 18 #[.slice none 0 0, .slice none 0 0, .int .u64 s] w fun e w' => e = .returned (.slice none 0 0) ∧ w' = w := by
  go_enter Yba.func18, Yba.ntmps18
  go_wp2
  go_ret
  exact ⟨rfl, rfl⟩
theorem lsh_word_0 (b : Nat) (u : Int) (w : World) (hc : w.cell? ⟨b, 0, none⟩ = some (.int .u64 u)) (hb : b < w.heap.size) :
    Calls Yba.prog 18 #[.slice none 0 0, .slice (some ⟨b, 0, none⟩) 1 1, .int .u64 0] w fun e w' => e = .returned (.slice (some ⟨w.heap.size, 0, none⟩) 1 1) ∧ ∃ n, w' = (w.drewN n).alloc (.cells #[.int .u64 u] 40) := by
  go_enter Yba.func18, Yba.ntmps18
  go_wp2_with (first | (go_at_call 21; refine (same_nil1 _ _).mono ?_; rintro e w' ⟨rfl, n1, rfl⟩) | (go_at_call 22; refine (alias_nil _ _ _ _).mono ?_; rintro e w' ⟨rfl, n2, rfl⟩) | (go_at_call 23; refine (set_1 _ u _ ?_ ?_).mono ?_; exact hc; exact hb; rintro e w' ⟨rfl, rfl⟩))
  go_ret
  exact ⟨rfl, _, rfl⟩
end Go.Proofs.Ybulkbpxo.big
