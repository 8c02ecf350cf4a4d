import Derived.Test.YbulkbqagGet
import Derived.Laws.CopyRow
import Derived.Laws.MakeOwn
import Derived.Deep.QuietTactic
import Derived.BigQuiet
namespace Go.Proofs.Ybulkbqag.model
open Go.ChangeShapes Go.WideShapes Go.ChangeAt Go.RowKit
set_option linter.unusedVariables false
set_option maxHeartbeats 1000000 in
/-- 'zzs3334amodel': the field, bit by bit. -/
theorem model_walk (wd i : Int) (bit n g len cap : Nat) (W : Nat → Nat) (w : World) (hwd : Hid (wd = n)) (h1 : 1 ≤ wd) (h2 : wd ≤ 64) (hmul : wrap64 (i * wd) = bit) (hb1 : bit + n ≤ 64 * len) (hlen : len ≤ 1024)
    (hc : ∀ j, j < len → w.cell? ⟨g, j, none⟩ = some (.int .u64 (W j))) (hW : ∀ j, W j < 2 ^ 64) :
    Calls Yba.prog 6 #[.slice (some ⟨g, 0, none⟩) len cap, .int .i64 wd, .int .i64 i] w fun e w' => e = .returned (.int .i32 (wrap32 (plain.fld W bit n))) ∧ w' = w := by
  go_enter Yba.func6, Yba.ntmps6
  go_wp2
  go_loop [7, 8] (fun r t => ∃ k : Nat, k ≤ n ∧ t = .int .i64 k ∧ r = .int .u64 (plain.fld W bit k)) (fun _ t => n - (intOf t).toNat)
  case atStart => exact ⟨0, Nat.zero_le _, rfl, rfl⟩
  case round =>
    obtain ⟨k, hk, rfl, rfl⟩ := hrel
    have hwd' := hwd.out
    by_cases hlt : k < n
    · have hlt' : (k : Int) < wd := by omega
      have hcc : w.cell? ⟨g, (bit + k) / 64, none⟩ = some (.int .u64 (W ((bit + k) / 64))) := hc _ (by omega)
      have hin : ((bit : Int) + k) / 64 < len := by omega
      have hk64 : (k : Int) < 64 := by omega
      have hbk : (bit : Int) + k ≤ 65535 := by omega
      clear hc hwd'
      go_wp2
      go_round
      case rel => exact ⟨k + 1, by omega, by go_num, by rw [plain.fld_succ W bit k (by omega) (hW _)]⟩
      case measure => simp [intOf]; omega
    · have hlt' : ¬ (k : Int) < wd := by omega
      have hkn : Hid (k = n) := by show k = n; omega
      clear hc hwd'
      go_wp2
      go_ret
      exact ⟨get.ret_int (by rw [hkn.out]), rfl⟩
theorem model_any (n i g len cap : Nat) (W : Nat → Nat) (w : World) (hn1 : 1 ≤ n) (hn2 : n ≤ 64) (hfit : i * n + n ≤ 64 * len) (hlen : len ≤ 1024)
    (hc : ∀ j, j < len → w.cell? ⟨g, j, none⟩ = some (.int .u64 (W j))) (hW : ∀ j, W j < 2 ^ 64) :
    Calls Yba.prog 6 #[.slice (some ⟨g, 0, none⟩) len cap, .int .i64 n, .int .i64 i] w fun e w' => e = .returned (.int .i32 (wrap32 (plain.fld W (i * n) n))) ∧ w' = w :=
  model_walk n i (i * n) n g len cap W w rfl (by omega) (by omega) (get.mul_bd i n len hfit hlen hn1) hfit hlen hc hW

/-- WHAT THE WALK IS TOLD OF A SLICE OF INTEGERS THAT CAME IN (the shell's own words). -/
def IsRow (k : IntKind) (w : World) (a : Option Addr) (len cap : Nat) (zs : List Int) : Prop :=
  (a = none ∧ len = 0 ∧ cap = 0 ∧ zs = []) ∨
  ∃ x, a = some x ∧ len ≤ cap ∧ cap ≤ maxLen ∧ zs.length = cap ∧ (∀ i, i < zs.length → w.cell? (x.add i) = some (.int k (zs.getD i 0))) ∧ ∀ n ∈ zs, (Lit.int k n).wf = true

theorem setRow_alloc (w : World) (M C : Array Value) (t : TypeId) : (w.alloc (.cells M t)).setRow w.heap.size C = w.alloc (.cells C t) := by
  unfold World.setRow World.alloc
  congr 1
  apply Array.ext_getElem?
  intro k
  simp only [Array.getElem?_modify, Array.getElem?_push]
  by_cases hk : k = w.heap.size
  · subst hk; simp
  · have : ¬ w.heap.size = k := fun e => hk e.symm
    simp [hk, this]

theorem info28 : (Yba.prog.info? 28).map (fun i => (i.zero, i.size, i.bytes)) = some (some (.int .u64 0), 1, 8) := by kernel_rfl
theorem size28 : (Yba.prog.info? 28).map (·.size) = some 1 := by kernel_rfl
theorem mk_eq (len : Nat) (hlen : len ≤ 1024) (w : World) : (Instr.makeSlice 22 (.int .i64 len) (.int .i64 len)).run Yba.prog w = .ok (.slice (some ⟨w.heap.size, 0, none⟩) len len) (w.alloc (.cells (madeCells #[.int .u64 0] len) 28)) := by
  obtain ⟨i0, hi, hz0, hz1, hz2⟩ := info_parts info28
  have h := run_make (P := Yba.prog) w 22 28 i0 (.int .u64 0) Yba.underlying22 hi hz0 .i64 .i64 len len (by omega) (by omega) (by rw [hz2]; omega) (by omega)
  rw [hz1] at h
  simpa [Value.cells] using h
/-- The copy of what came in. -/
def Cp (zs : List Int) (len : Nat) : Array Value := ((zs.take len).map (Value.int .u64)).toArray
theorem cp_eq (a : Option Addr) (len cap : Nat) (zs : List Int) (w : World) (h : IsRow .u64 w a len cap zs) :
    (Builtin.copy_ #[22, 22] 3 #[.slice (some ⟨w.heap.size, 0, none⟩) len len, .slice a len cap]).run Yba.prog (w.alloc (.cells (madeCells #[.int .u64 0] len) 28)) = .ok (.int .i64 len) (w.alloc (.cells (Cp zs len) 28)) := by
  rcases h with ⟨rfl, rfl, rfl, rfl⟩ | ⟨x, rfl, h1, h2, h3, h4, h5⟩
  · have := run_copy_nil (P := Yba.prog) (w.alloc (.cells (madeCells #[.int .u64 0] 0) 28)) 22 22 3 28 ⟨w.heap.size, 0, none⟩ 0 0 Yba.underlying22 (by rw [size28]; rfl)
    have e : madeCells #[.int .u64 0] 0 = #[] := Array.eq_empty_of_size_eq_zero (size_madeCells _ _)
    rw [this, e]
    rfl
  · have hl : ((zs.take len).map (Value.int .u64)).length = len := by simp; omega
    have hlt : ∀ i, i < zs.length → (x.add i).block < w.heap.size := by
      intro i hi
      have := h4 i hi
      generalize x.add i = y at this ⊢
      rcases Nat.lt_or_ge y.block w.heap.size with h' | h'
      · exact h'
      · simp [World.cell?, Array.getElem?_eq_none h'] at this
    have := run_copy_row (P := Yba.prog) (w.alloc (.cells (madeCells #[.int .u64 0] len) 28)) 22 22 3 28 w.heap.size 0 len len x len cap (madeCells #[.int .u64 0] len) 28 ((zs.take len).map (Value.int .u64)) Yba.underlying22 size28
      (heap_alloc_new w _) (by rw [hl]; simp) ?_ (by rw [hl, size_madeCells]; omega) (by intro v hv; obtain ⟨y, _, rfl⟩ := List.mem_map.1 hv; rfl)
    · rw [this, setRow_alloc, hl]
      have e : (madeCells #[.int .u64 0] len).toList.drop (0 + len) = [] := List.drop_of_length_le (by simp [size_madeCells])
      rw [e]
      simp [Cp, goInt]
    · intro j v hj
      have hjl : j < len := by
        have := (List.getElem?_eq_some_iff.1 hj).1
        rw [hl] at this; exact this
      have hjz : j < zs.length := by omega
      have e : (w.alloc (.cells (madeCells #[.int .u64 0] len) 28)).cell? (x.add j) = w.cell? (x.add j) := World.cell?_alloc_lt w _ (x.add j) (hlt j hjz)
      rw [e, h4 j hjz]
      rw [List.getElem?_map, List.getElem?_take] at hj
      simp [hjl, hjz] at hj
      simp [hjz, hj]
end Go.Proofs.Ybulkbqag.model
