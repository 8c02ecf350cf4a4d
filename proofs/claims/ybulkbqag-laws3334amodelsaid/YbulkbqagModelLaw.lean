import Derived.Test.YbulkbqagModelParts
import Derived.WalkSmall
namespace Go.Proofs.Ybulkbqag.model
open Go.ChangeShapes Go.WideShapes Go.ChangeAt Go.RowKit
set_option linter.unusedVariables false
theorem walk_long (a0 : Option Addr) (len0 cap0 : Nat) (a1 a2 : Int) (w : World) (h : 1024 < len0) :
    Calls Yba.prog 3 #[.slice a0 len0 cap0, .int .u8 a1, .int .u16 a2] w fun e w' => e = .returned (.bool true) ∧ Below w.heap.size w w' := by
  have h' : (1024 : Int) < (len0 : Int) := by omega
  go_enter Yba.func3, Yba.ntmps3
  go_wp2
  go_ret
  exact ⟨rfl, Below.refl _ _⟩
theorem walk_zero (a0 : Option Addr) (len0 cap0 : Nat) (z0 : List Int) (a1 a2 : Int) (w : World) (w0 : IsRow .u64 w a0 len0 cap0 z0) (h : len0 ≤ 1024) (h10 : 0 ≤ a1) (h11 : a1 ≤ 255) (h20 : 0 ≤ a2) (h21 : a2 ≤ 65535) (hz : a1 % 65 = 0) :
    Calls Yba.prog 3 #[.slice a0 len0 cap0, .int .u8 a1, .int .u16 a2] w fun e w' => e = .returned (.bool true) ∧ Below w.heap.size w w' := by
  have h' : ¬ (1024 : Int) < (len0 : Int) := by omega
  have k1 := mk_eq len0 h
  have k2 := cp_eq a0 len0 cap0 z0 w w0
  clear w0
  go_enter Yba.func3, Yba.ntmps3
  go_wp2_with (go_at_call 5; refine (get.get_zero _ _ _).mono ?_; rintro e w' ⟨rfl, cs, rfl⟩)
  go_ret
  exact ⟨rfl, (((Below.refl _ _).alloc (Nat.le_refl _) _).alloc (by simp) _).alloc (by simp; omega) _⟩
theorem walk_none (a0 : Option Addr) (len0 cap0 n : Nat) (z0 : List Int) (a1 a2 : Int) (w : World) (w0 : IsRow .u64 w a0 len0 cap0 z0) (h : len0 ≤ 1024) (h10 : 0 ≤ a1) (h11 : a1 ≤ 255) (h20 : 0 ≤ a2) (h21 : a2 ≤ 65535) (hn : a1 % 65 = n) (hn1 : 1 ≤ n) (hm : 64 * (len0 : Int) / n = 0) :
    Calls Yba.prog 3 #[.slice a0 len0 cap0, .int .u8 a1, .int .u16 a2] w fun e w' => e = .returned (.bool true) ∧ Below w.heap.size w w' := by
  have h' : ¬ (1024 : Int) < (len0 : Int) := by omega
  have hn0 : ((n : Int) == 0) = false := by simp; omega
  have k1 := mk_eq len0 h
  have k2 := cp_eq a0 len0 cap0 z0 w w0
  clear w0
  go_enter Yba.func3, Yba.ntmps3
  go_wp2
  go_ret
  exact ⟨rfl, (((Below.refl _ _).alloc (Nat.le_refl _) _).alloc (by simp) _)⟩
/-- The words that came in, as numbers. -/
def Wf (zs : List Int) (j : Nat) : Nat := (zs.getD j 0).toNat
theorem wf_bd (zs : List Int) (h : ∀ n ∈ zs, (Lit.int .u64 n).wf = true) (j : Nat) : 0 ≤ zs.getD j 0 ∧ zs.getD j 0 < 18446744073709551616 := by
  by_cases hj : j < zs.length
  · have e : zs.getD j 0 = zs[j] := by simp [hj]
    obtain ⟨h1, h2⟩ := bounds_u64 (h zs[j] (List.getElem_mem hj))
    rw [e]
    omega
  · have e : zs.getD j 0 = 0 := by simp [Nat.le_of_not_lt hj]
    rw [e]
    omega
theorem Wf_lt (zs : List Int) (h : ∀ n ∈ zs, (Lit.int .u64 n).wf = true) (j : Nat) : Wf zs j < 2 ^ 64 := by
  have := wf_bd zs h j
  unfold Wf
  omega
theorem Wf_eq (zs : List Int) (h : ∀ n ∈ zs, (Lit.int .u64 n).wf = true) (j : Nat) : (Wf zs j : Int) = zs.getD j 0 := by
  have := wf_bd zs h j
  unfold Wf
  omega
theorem cp_cell (zs : List Int) (len j : Nat) (h : ∀ n ∈ zs, (Lit.int .u64 n).wf = true) (hj : j < len) (hl : len ≤ zs.length) : (Cp zs len)[j]? = some (.int .u64 (Wf zs j)) := by
  have hjz : j < zs.length := by omega
  rw [Wf_eq zs h]
  simp [Cp, hj, hjz]
theorem fit (n m i len : Nat) (hn : 1 ≤ n) (hm : 64 * (len : Int) / n = m) (hi : i < m) : i * n + n ≤ 64 * len := by
  have hm' : 64 * len / n = m := by
    have : ((64 * len / n : Nat) : Int) = m := by rw [← hm]; simp
    omega
  have h1 : m * n ≤ 64 * len := by rw [← hm']; exact Nat.div_mul_le_self _ _
  have h2 : (i + 1) * n ≤ m * n := Nat.mul_le_mul_right n hi
  rw [Nat.add_mul] at h2
  omega
set_option maxHeartbeats 1000000 in
theorem walk_some (b off len0 cap0 n m i : Nat) (z0 : List Int) (a1 a2 : Int) (w : World) (w0 : IsRow .u64 w (some ⟨b, off, none⟩) len0 cap0 z0) (h : len0 ≤ 1024) (h10 : 0 ≤ a1) (h11 : a1 ≤ 255) (h20 : 0 ≤ a2) (h21 : a2 ≤ 65535) (hn : a1 % 65 = n) (hn1 : 1 ≤ n) (hm : 64 * (len0 : Int) / n = m) (hm1 : 1 ≤ m) (hi : a2 % m = i) :
    Calls Yba.prog 3 #[.slice (some ⟨b, off, none⟩) len0 cap0, .int .u8 a1, .int .u16 a2] w fun e w' => e = .returned (.bool true) ∧ Below w.heap.size w w' := by
  have h' : ¬ (1024 : Int) < (len0 : Int) := by omega
  have hn0 : ((n : Int) == 0) = false := by simp; omega
  have hm0 : ((m : Int) == 0) = false := by simp; omega
  have k1 := mk_eq len0 h
  have k2 := cp_eq _ len0 cap0 z0 w w0
  obtain ⟨hl, hwf, hcells⟩ : len0 ≤ z0.length ∧ (∀ n ∈ z0, (Lit.int .u64 n).wf = true) ∧ (∀ j, j < len0 → b < w.heap.size ∧ w.cell? ⟨b, off + j, none⟩ = some (.int .u64 (Wf z0 j))) := by
    rcases w0 with ⟨h, _⟩ | ⟨x, hx, h1, h2, h3, h4, h5⟩
    · cases h
    · cases hx
      refine ⟨by omega, h5, fun j hj => ?_⟩
      have e := h4 j (by omega)
      have e2 : (⟨b, off, none⟩ : Addr).add j = ⟨b, off + j, none⟩ := add_plain _ _ _
      rw [e2] at e
      refine ⟨?_, by rw [Wf_eq z0 h5]; exact e⟩
      rcases Nat.lt_or_ge b w.heap.size with h' | h'
      · exact h'
      · simp [World.cell?, Array.getElem?_eq_none h'] at e
  have hin : i < m := by
    have : a2 % (m : Int) < m := Int.emod_lt_of_pos _ (by omega)
    omega
  have hfit := fit n m i len0 hn1 hm hin
  have hn65 : n ≤ 64 := by omega
  clear w0
  have HW : Hid (∀ j, Wf z0 j < 2 ^ 64) := Wf_lt z0 hwf
  have HC : Hid (∀ j, j < len0 → (Cp z0 len0)[j]? = some (.int .u64 (Wf z0 j))) := fun j hj => cp_cell z0 len0 j hwf hj hl
  have HR : Hid (∀ j, j < len0 → b < w.heap.size ∧ w.cell? ⟨b, off + j, none⟩ = some (.int .u64 (Wf z0 j))) := hcells
  have HF : Hid (i * n + n ≤ 64 * len0) := hfit
  clear hcells hwf hfit
  go_enter Yba.func3, Yba.ntmps3
  go_wp2_with fail
  clear k1 k2 
  refine (get.get_any n i w.heap.size len0 len0 (Wf z0) _ hn1 hn65 HF.out h ?_ ?_ HW.out).mono ?_
  · simp; omega
  · intro j hj
    rw [World.cell?_alloc_past _ _ _ (by simp), World.cell?_alloc_at _ _ _ _ rfl]
    exact HC.out j hj
  rintro e w' ⟨rfl, cs, rfl⟩
  go_wp2_with fail
  refine (model_any n i w.heap.size len0 len0 (Wf z0) _ hn1 hn65 HF.out h ?_ HW.out).mono ?_
  · intro j hj
    rw [World.cell?_alloc_past _ _ _ (by simp; omega), World.cell?_alloc_past _ _ _ (by simp), World.cell?_alloc_at _ _ _ _ rfl]
    exact HC.out j hj
  rintro e w' ⟨rfl, rfl⟩
  go_wp2
  clear hn hm hi hn0 hm0 h20 h21 h10 h11 hn65 hin hm1 hn1
  go_loopw [58] (fun t wr => ∃ k : Nat, k ≤ len0 ∧ t = .int .i64 k ∧ Hid (∀ j, j < len0 → wr.cell? ⟨w.heap.size, j, none⟩ = some (.int .u64 (Wf z0 j))) ∧ Hid (∀ j, j < len0 → wr.cell? ⟨b, off + j, none⟩ = some (.int .u64 (Wf z0 j))) ∧ Hid (Below w.heap.size w wr)) (fun t _ => len0 - (intOf t).toNat)
  case atStart =>
    refine ⟨0, Nat.zero_le _, rfl, fun j hj => ?_, fun j hj => ?_, ?_⟩
    · rw [World.cell?_alloc_past _ _ _ (by simp; omega), World.cell?_alloc_past _ _ _ (by simp), World.cell?_alloc_at _ _ _ _ rfl]
      exact HC.out j hj
    · obtain ⟨hb, hc⟩ := HR.out j hj
      rw [World.cell?_alloc_past _ _ _ (by simp; omega), World.cell?_alloc_past _ _ _ (by simp; omega), World.cell?_alloc_past _ _ _ hb]
      exact hc
    · exact (((Below.refl _ _).alloc (Nat.le_refl _) _).alloc (by simp) _).alloc (by simp; omega) _
  case round =>
    obtain ⟨k, hk, rfl, H1, H2, H3⟩ := hrel
    by_cases hlt : k < len0
    · have c1 := H1.out k hlt
      have c2 := H2.out k hlt
      have hk' : (k : Int) < (len0 : Int) := by omega
      go_wp2
      go_quiet (fail)
      go_wp2
      go_roundw
      case rel => exact ⟨k + 1, by omega, by go_num, H1, H2, below_drewN H3.out _⟩
      case measure => simp [intOf]; omega
    · have hk' : ¬ (k : Int) < (len0 : Int) := by omega
      go_wp2
      go_ret
      exact ⟨rfl, H3.out⟩
end Go.Proofs.Ybulkbqag.model
