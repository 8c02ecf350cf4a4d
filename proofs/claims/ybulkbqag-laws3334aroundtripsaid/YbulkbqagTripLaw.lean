import Derived.Test.YbulkbqagTripPacked
import Derived.Test.YbulkbqagModelParts
namespace Go.Proofs.Ybulkbqag.trip
open Go.ChangeShapes Go.WideShapes Go.ChangeAt Go.RowKit
open Go.Proofs.Ybulkbqag.model (IsRow)
set_option linter.unusedVariables false
theorem walk_long (a0 : Option Addr) (len0 cap0 : Nat) (a1 : Int) (w : World) (h : 1024 < len0) :
    Calls Yba.prog 4 #[.slice a0 len0 cap0, .int .u32 a1] w fun e w' => e = .returned (.bool true) ∧ Below w.heap.size w w' := by
  have h' : (1024 : Int) < (len0 : Int) := by omega
  go_enter Yba.func4, Yba.ntmps4
  go_wp2
  go_ret
  exact ⟨rfl, Below.refl _ _⟩
/-- The numbers that are packed. -/
def Vf (zs : List Int) (X j : Nat) : Nat := (zs.getD j 0).toNat % (X + 1)
theorem lt_of_cell {w : World} {b o : Nat} {v : Value} (h : w.cell? ⟨b, o, none⟩ = some v) : b < w.heap.size := by
  rcases Nat.lt_or_ge b w.heap.size with h' | h'
  · exact h'
  · simp [World.cell?, Array.getElem?_eq_none h'] at h
/-- What holds of the memory at each round's head of the first loop. -/
structure L1 (w wr : World) (V : Nat → Nat) (len k : Nat) : Prop where
  cells : ∀ j, j < len → wr.cell? ⟨w.heap.size, j, none⟩ = some (.int .i32 ((if j < k then V j else 0 : Nat) : Int))
  free : ∀ j, j < len → wr.frozen? ⟨w.heap.size, j, none⟩ = false
  bel : Below w.heap.size w wr
  size : w.heap.size < wr.heap.size
theorem vf_eq (zs : List Int) (X k : Nat) (y : Int) (hy : y = zs.getD k 0) (hy0 : 0 ≤ y) (hX : (X : Int) ≤ 2147483647) : wrap32 (y % ((X : Int) + 1)) = ((Vf zs X k : Nat) : Int) := by
  obtain ⟨m, rfl⟩ := Int.eq_ofNat_of_zero_le hy0
  have e : ((m : Int) % ((X : Int) + 1)) = ((m % (X + 1) : Nat) : Int) := by simp
  have hlt : m % (X + 1) < X + 1 := Nat.mod_lt _ (by omega)
  have e2 : Vf zs X k = m % (X + 1) := by unfold Vf; rw [← hy]; rfl
  rw [e, e2]
  unfold wrap32
  omega
theorem vf_le (zs : List Int) (X j : Nat) : Vf zs X j ≤ X := by
  have : Vf zs X j < X + 1 := Nat.mod_lt _ (by omega)
  omega
theorem L1.step {w wr : World} {V : Nat → Nat} {len k : Nat} (h : L1 w wr V len k) (hk : k < len) : L1 w (wr.setCell ⟨w.heap.size, k, none⟩ (.int .i32 (V k : Nat))) V len (k + 1) := by
  refine ⟨fun j hj => ?_, fun j hj => (World.frozen?_setCell _ _ _ _).trans (h.free j hj), h.bel.setCell (Nat.le_refl _) _, by simpa [World.setCell] using h.size⟩
  by_cases e : j = k
  · subst e
    rw [World.cell?_setCell_same _ _ _ (h.cells j hj), if_pos (by omega)]
  · rw [World.cell?_setCell_other _ ⟨w.heap.size, k, none⟩ ⟨w.heap.size, j, none⟩ _ (fun e' => e (by simp only [Addr.mk.injEq] at e'; exact e'.2.1.symm)), h.cells j hj]
    by_cases e2 : j < k
    · rw [if_pos e2, if_pos (by omega)]
    · rw [if_neg e2, if_neg (by omega)]
/-- 'get' reads what was packed. -/
theorem get_v (n i g wl len cap : Nat) (W V : Nat → Nat) (w : World) (hn1 : 1 ≤ n) (hn2 : n ≤ 31) (hwl : wl = (len * n + 63) / 64) (hlen : len ≤ 1024) (hi : i < len) (hc : ∀ j, j < wl → w.cell? ⟨g, j, none⟩ = some (.int .u64 (W j))) (hW : ∀ j, W j < 2 ^ 64)
    (hB : plain.Bears W V n len) (hV : ∀ j, V j ≤ 2147483647) (hVn : ∀ j, V j < 2 ^ n) :
    Calls Yba.prog 5 #[.agg #[.int .i64 n, .slice (some ⟨g, 0, none⟩) wl cap], .int .i64 i] w fun e w' => e = .returned (.int .i32 (V i)) ∧ ∃ cs, w' = w.alloc (.cells cs 25) := by
  have h1 : (i + 1) * n ≤ len * n := Nat.mul_le_mul_right n hi
  rw [Nat.add_mul, Nat.one_mul] at h1
  have h2 := wl_bd len n hlen hn2
  obtain ⟨P, hP⟩ : ∃ P : Nat, P = len * n := ⟨_, rfl⟩
  rw [← hP] at hwl h1 h2
  have h3 : 0 < wl := by omega
  refine (get.get_any n i g wl cap W w hn1 (by omega) (by omega) (by omega) (lt_of_cell (hc 0 h3)) hc hW).mono ?_
  rintro e w' ⟨rfl, hw⟩
  refine ⟨get.ret_int ?_, hw⟩
  rw [plain.bears_get W V n len i hn1 (hVn i) hB hi]
  have := hV i
  unfold wrap32
  omega
/-- What holds of the memory at each round's head of the second loop: 'p' the packed list's box, with width n over words ws (the slice s); the numbers. -/
structure L2 (w : World) (p : Nat) (n : Nat) (s : Value) (wr : World) (V : Nat → Nat) (len : Nat) : Prop where
  p0 : wr.cell? ⟨p, 0, none⟩ = some (.int .i64 n)
  p1 : wr.cell? ⟨p, 1, none⟩ = some s
  cells : ∀ j, j < len → wr.cell? ⟨w.heap.size, j, none⟩ = some (.int .i32 (V j))
  bel : Below w.heap.size w wr
theorem cell_alloc {w : World} {b j : Nat} {v : Value} (o : Obj) (h : w.cell? ⟨b, j, none⟩ = some v) : (w.alloc o).cell? ⟨b, j, none⟩ = some v :=
  (World.cell?_alloc_past o b j (lt_of_cell h)).trans h
theorem L2.alloc {w : World} {p n : Nat} {s : Value} {wr : World} {V : Nat → Nat} {len : Nat} (h : L2 w p n s wr V len) (o : Obj) : L2 w p n s (wr.alloc o) V len :=
  ⟨cell_alloc o h.p0, cell_alloc o h.p1, fun j hj => cell_alloc o (h.cells j hj), h.bel.alloc h.bel.size o⟩
set_option maxHeartbeats 400000 in
theorem walk_some (a0 : Option Addr) (len0 cap0 X : Nat) (z0 : List Int) (a1 : Int) (w : World) (h : len0 ≤ 1024) (ha0 : 0 ≤ a1) (ha1 : a1 ≤ 4294967295) (hX : a1 % 2147483648 = X) (hXb : (X : Int) ≤ 2147483647)
    (hr : ∀ j, j < len0 → ∃ b off, a0 = some ⟨b, off, none⟩ ∧ w.cell? ⟨b, off + j, none⟩ = some (.int .u32 (z0.getD j 0)) ∧ 0 ≤ z0.getD j 0 ∧ z0.getD j 0 ≤ 4294967295) :
    Calls Yba.prog 4 #[.slice a0 len0 cap0, .int .u32 a1] w fun e w' => e = .returned (.bool true) ∧ Below w.heap.size w w' := by
  have h' : ¬ (1024 : Int) < (len0 : Int) := by omega
  have k1 := mk32 len0 h
  have HR : Hid (∀ j, j < len0 → ∃ b off, a0 = some ⟨b, off, none⟩ ∧ w.cell? ⟨b, off + j, none⟩ = some (.int .u32 (z0.getD j 0)) ∧ 0 ≤ z0.getD j 0 ∧ z0.getD j 0 ≤ 4294967295) := hr
  clear hr
  go_enter Yba.func4, Yba.ntmps4
  go_wp2
  clear k1 hX ha0 ha1
  go_loopw [24] (fun t wr => ∃ k : Nat, k ≤ len0 ∧ t = .int .i64 k ∧ L1 w wr (Vf z0 X) len0 k) (fun t _ => len0 - (intOf t).toNat)
  case atStart =>
    refine ⟨0, Nat.zero_le _, rfl, fun j hj => ?_, fun j hj => ?_, ?_, by simp⟩
    · rw [World.cell?_alloc_at _ _ _ _ rfl]
      exact made_cell _ _ _ hj
    · rw [World.frozen?_alloc_at _ _ _ _ rfl]
    · exact (Below.refl _ _).alloc (Nat.le_refl _) _
  case round =>
    obtain ⟨k, hk, rfl, HL⟩ := hrel
    by_cases hlt : k < len0
    · have hk' : (k : Int) < (len0 : Int) := by omega
      obtain ⟨b, off, rfl, hc, hy0, hy1⟩ := HR.out k hlt
      have hb := lt_of_cell hc
      have hc' : wr.cell? ⟨b, off + k, none⟩ = some (.int .u32 (z0.getD k 0)) := (HL.bel.cell (p := ⟨b, off + k, none⟩) hb).trans hc
      obtain ⟨y, hy⟩ : ∃ y : Int, y = z0.getD k 0 := ⟨_, rfl⟩
      rw [← hy] at hc' hy0 hy1
      have HY : Hid (y = z0.getD k 0) := hy
      have d1 := HL.cells k hlt
      have d2 := HL.free k hlt
      rw [if_neg (by omega)] at d1
      clear hy hc
      go_wp2
      go_roundw
      case rel =>
        refine ⟨k + 1, by omega, by go_num, ?_⟩
        rw [vf_eq z0 X k y HY.out hy0 hXb]
        exact HL.step hlt
      case measure => simp [intOf]; omega
    · have hk' : ¬ (k : Int) < (len0 : Int) := by omega
      have hkl : k = len0 := by omega
      have HV : Hid (∀ j, j < len0 → wr.cell? ⟨w.heap.size, j, none⟩ = some (.int .i32 (Vf z0 X j))) := fun j hj => by
        rw [HL.cells j hj, if_pos (by omega)]
      go_wp2_with fail
      by_cases hX0 : X = 0
      · subst hX0
        refine (packed_zero _ _).mono ?_
        rintro e w2 ⟨rfl, hbel⟩
        have HB2 : Hid (Below w.heap.size w w2) := HL.bel.trans (hbel.mono (Nat.le_of_lt HL.size))
        have HV2 : Hid (∀ j, j < len0 → w2.cell? ⟨w.heap.size, j, none⟩ = some (.int .i32 0)) := fun j hj => by
          rw [hbel.cell (p := ⟨w.heap.size, j, none⟩) HL.size, HV.out j hj]
          have := vf_le z0 0 j
          have e : Vf z0 0 j = 0 := by omega
          rw [e]
          rfl
        have hsz : w.heap.size < w2.heap.size := Nat.lt_of_lt_of_le HL.size hbel.size
        clear hbel HL HV HR
        go_wp2
        go_loopw [43] (fun t wq => ∃ k : Nat, k ≤ len0 ∧ t = .int .i64 k ∧ L2 w w2.heap.size 0 (.slice none 0 0) wq (fun _ => 0) len0) (fun t _ => len0 - (intOf t).toNat)
        case atStart => exact ⟨0, Nat.zero_le _, rfl, by rw [World.cell?_alloc_at _ _ _ _ rfl]; rfl, by rw [World.cell?_alloc_at _ _ _ _ rfl]; rfl, fun j hj => cell_alloc _ (HV2.out j hj), HB2.out.alloc (Nat.le_of_lt hsz) _⟩
        case round =>
          obtain ⟨m, hm, rfl, H2⟩ := hrel
          by_cases hmt : m < len0
          · have hm' : (m : Int) < (len0 : Int) := by omega
            have c0 := H2.p0
            have c1 := H2.p1
            have c2 := H2.cells m hmt
            go_wp2_with (go_at_call 5; refine (get.get_zero _ _ _).mono ?_; rintro e w' ⟨rfl, cs, rfl⟩)
            go_roundw
            case rel => exact ⟨m + 1, by omega, by go_num, H2.alloc _⟩
            case measure => simp [intOf]; omega
          · have hm' : ¬ (m : Int) < (len0 : Int) := by omega
            go_wp2
            go_ret
            exact ⟨rfl, H2.bel⟩
      · have hX1 : 1 ≤ X := by omega
        obtain ⟨f1, f2, f3⟩ := bitLen_facts X hX1 (by omega)
        obtain ⟨n, hn⟩ : ∃ n : Nat, Lib.bitLen X = n := ⟨_, rfl⟩
        rw [hn] at f1 f2 f3
        have hVn : ∀ j, Vf z0 X j < 2 ^ n := fun j => Nat.lt_of_le_of_lt (vf_le z0 X j) f3
        have hVb : ∀ j, Vf z0 X j ≤ 2147483647 := fun j => by have := vf_le z0 X j; omega
        refine (packed_any w.heap.size len0 X n (Vf z0 X) wr HL.size h hX1 (by omega) hn f1 f2 hVb hVn HV.out).mono ?_
        rintro e w2 ⟨W, rfl, hB, hlt64, hcw, hbel⟩
        obtain ⟨wl, hwl⟩ : ∃ wl : Nat, wl = (len0 * n + 63) / 64 := ⟨_, rfl⟩
        rw [← hwl] at hcw
        rw [← hwl]
        have HB2 : Hid (Below w.heap.size w w2) := HL.bel.trans (hbel.mono (Nat.le_of_lt HL.size))
        have HV2 : Hid (∀ j, j < len0 → w2.cell? ⟨w.heap.size, j, none⟩ = some (.int .i32 (Vf z0 X j))) := fun j hj => by
          rw [hbel.cell (p := ⟨w.heap.size, j, none⟩) HL.size, HV.out j hj]
        have hsz : w.heap.size < w2.heap.size := Nat.lt_of_lt_of_le HL.size hbel.size
        obtain ⟨gw, hgw⟩ : ∃ gw, gw = wr.heap.size + 1 + 1 := ⟨_, rfl⟩
        rw [← hgw] at hcw
        rw [← hgw]
        have HCW : Hid (∀ j, j < wl → w2.cell? ⟨gw, j, none⟩ = some (.int .u64 (W j))) := hcw
        have HBR : Hid (plain.Bears W (Vf z0 X) n len0) := hB
        have HLT : Hid (∀ j, W j < 2 ^ 64) := hlt64
        have HVN : Hid (∀ j, Vf z0 X j < 2 ^ n) := hVn
        have HVB : Hid (∀ j, Vf z0 X j ≤ 2147483647) := hVb
        have HWL : Hid (wl = (len0 * n + 63) / 64) := hwl
        obtain ⟨V, hVV⟩ : ∃ V : Nat → Nat, V = Vf z0 X := ⟨_, rfl⟩
        rw [← hVV] at HV2 HBR HVN HVB
        clear hbel HL HV HR hVV hwl hVb hVn hlt64 hB hcw hgw hn f3 hX0 hX1
        go_wp2
        go_loopw [43] (fun t wq => ∃ k : Nat, k ≤ len0 ∧ t = .int .i64 k ∧ Hid (∀ j, j < wl → wq.cell? ⟨gw, j, none⟩ = some (.int .u64 (W j))) ∧ L2 w w2.heap.size n (.slice (some ⟨gw, 0, none⟩) wl wl) wq V len0) (fun t _ => len0 - (intOf t).toNat)
        case atStart => exact ⟨0, Nat.zero_le _, rfl, fun j hj => cell_alloc _ (HCW.out j hj), by rw [World.cell?_alloc_at _ _ _ _ rfl]; rfl, by rw [World.cell?_alloc_at _ _ _ _ rfl]; rfl, fun j hj => cell_alloc _ (HV2.out j hj), HB2.out.alloc (Nat.le_of_lt hsz) _⟩
        case round =>
          obtain ⟨m, hm, rfl, H1, H2⟩ := hrel
          by_cases hmt : m < len0
          · have hm' : (m : Int) < (len0 : Int) := by omega
            have c0 := H2.p0
            have c1 := H2.p1
            have c2 := H2.cells m hmt
            go_wp2_with (go_at_call 5; refine (get_v n m gw wl len0 wl W V _ f1 f2 HWL.out h hmt H1.out HLT.out HBR.out HVB.out HVN.out).mono ?_; rintro e w' ⟨rfl, cs, rfl⟩)
            go_roundw
            case rel => exact ⟨m + 1, by omega, by go_num, fun j hj => cell_alloc _ (H1.out j hj), H2.alloc _⟩
            case measure => simp [intOf]; omega
          · have hm' : ¬ (m : Int) < (len0 : Int) := by omega
            go_wp2
            go_ret
            exact ⟨rfl, H2.bel⟩
end Go.Proofs.Ybulkbqag.trip
