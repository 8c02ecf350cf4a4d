import Derived.Test.YbulkbqagTripParts
namespace Go.Proofs.Ybulkbqag.trip
open Go.ChangeShapes Go.WideShapes Go.ChangeAt Go.RowKit
set_option linter.unusedVariables false
/-- What holds of the memory at each round's head of packedOf's loop: the row of words is W. -/
structure Lp (w wr : World) (n wl : Nat) (W : Nat → Nat) : Prop where
  lt : ∀ j, W j < 2 ^ 64
  cells : ∀ j, j < wl → wr.cell? ⟨w.heap.size + 1 + 1, j, none⟩ = some (.int .u64 (W j))
  free : ∀ j, j < wl → wr.frozen? ⟨w.heap.size + 1 + 1, j, none⟩ = false
  r0 : wr.cell? ⟨w.heap.size, 0, none⟩ = some (.int .i64 0)
  r1 : wr.cell? ⟨w.heap.size, 1, none⟩ = some (.slice none 0 0)
  f0 : wr.frozen? ⟨w.heap.size, 0, none⟩ = false
  f1 : wr.frozen? ⟨w.heap.size, 1, none⟩ = false
  p0 : wr.cell? ⟨w.heap.size + 1, 0, none⟩ = some (.int .i64 n)
  p1 : wr.cell? ⟨w.heap.size + 1, 1, none⟩ = some (.slice (some ⟨w.heap.size + 1 + 1, 0, none⟩) wl wl)
  bel : Below w.heap.size w wr
theorem or_lo (W : Nat → Nat) (bit v : Nat) (hW : W (bit / 64) < 2 ^ 64) : bits BinOp.or IntKind.u64 (W (bit / 64) : Int) (IntKind.u64.wrap ((v : Int) * 2 ^ (bit % 64))) = ((W (bit / 64) ||| v * 2 ^ (bit % 64) % 2 ^ 64 : Nat) : Int) := by
  have e : IntKind.u64.wrap ((v : Int) * 2 ^ (bit % 64)) = ((v * 2 ^ (bit % 64) % 2 ^ 64 : Nat) : Int) := by
    rw [IntKind.wrap_u64]
    simp
  have h2 : v * 2 ^ (bit % 64) % 2 ^ 64 < 2 ^ 64 := Nat.mod_lt _ (by decide)
  rw [e, u64_or_nat _ _ (by omega) (by omega)]
theorem or_hi (W : Nat → Nat) (bit v : Nat) (hW : W (bit / 64 + 1) < 2 ^ 64) (hv : v < 2 ^ 64) : bits BinOp.or IntKind.u64 (W (bit / 64 + 1) : Int) ((v : Int) / 2 ^ (64 - bit % 64)) = ((W (bit / 64 + 1) ||| v / 2 ^ (64 - bit % 64) : Nat) : Int) := by
  have e : ((v : Int) / 2 ^ (64 - bit % 64)) = ((v / 2 ^ (64 - bit % 64) : Nat) : Int) := by simp
  have h2 : v / 2 ^ (64 - bit % 64) < 2 ^ 64 := Nat.lt_of_le_of_lt (Nat.div_le_self _ _) hv
  rw [e, u64_or_nat _ _ (by omega) (by omega)]
theorem Lp.drew {w wr : World} {n wl : Nat} {W : Nat → Nat} (h : Lp w wr n wl W) : Lp w wr.drew n wl W :=
  ⟨h.lt, h.cells, h.free, h.r0, h.r1, h.f0, h.f1, h.p0, h.p1, h.bel.drew⟩
/-- A store into the row of words. -/
theorem Lp.store {w wr : World} {n wl : Nat} {W W' : Nat → Nat} (h : Lp w wr n wl W) (q : Nat) (hq : q < wl) (y : Nat) (hl : ∀ j, W' j < 2 ^ 64) (h1 : W' q = y) (h2 : ∀ j, j ≠ q → W' j = W j) :
    Lp w (wr.setCell ⟨w.heap.size + 1 + 1, q, none⟩ (.int .u64 (y : Nat))) n wl W' := by
  have ot : ∀ b j, (b ≠ w.heap.size + 1 + 1 ∨ j ≠ q) → (wr.setCell ⟨w.heap.size + 1 + 1, q, none⟩ (.int .u64 (y : Nat))).cell? ⟨b, j, none⟩ = wr.cell? ⟨b, j, none⟩ := by
    intro b j hbj
    apply World.cell?_setCell_other
    intro e
    simp only [Addr.mk.injEq] at e
    rcases hbj with h' | h'
    · exact h' e.1.symm
    · exact h' e.2.1.symm
  refine ⟨hl, fun j hj => ?_, fun j hj => (World.frozen?_setCell _ _ _ _).trans (h.free j hj), ?_, ?_, (World.frozen?_setCell _ _ _ _).trans h.f0, (World.frozen?_setCell _ _ _ _).trans h.f1, ?_, ?_, h.bel.setCell (by show w.heap.size ≤ w.heap.size + 1 + 1; omega) _⟩
  · by_cases e : j = q
    · subst e
      rw [World.cell?_setCell_same _ _ _ (h.cells j hj), h1]
    · rw [ot _ _ (.inr e), h.cells j hj, h2 j e]
  · rw [ot _ _ (.inl (by omega))]; exact h.r0
  · rw [ot _ _ (.inl (by omega))]; exact h.r1
  · rw [ot _ _ (.inl (by omega))]; exact h.p0
  · rw [ot _ _ (.inl (by omega))]; exact h.p1
theorem Lp.step_in {w wr : World} {n wl bit v : Nat} {W : Nat → Nat} (h : Lp w wr n wl W) (hv : v < 2 ^ 64) (hq : bit / 64 < wl) (hov : bit % 64 + n ≤ 64) :
    Lp w (wr.setCell ⟨w.heap.size + 1 + 1, bit / 64, none⟩ (.int .u64 (bits BinOp.or IntKind.u64 (W (bit / 64) : Int) (IntKind.u64.wrap ((v : Int) * 2 ^ (bit % 64)))))).drew n wl (plain.lay W bit n v) := by
  rw [or_lo W bit v (h.lt _)]
  refine (h.store (bit / 64) hq _ (plain.lay_lt W bit n v h.lt hv) ?_ ?_).drew
  · unfold plain.lay; rw [if_pos rfl]
  · intro j hj
    unfold plain.lay
    rw [if_neg hj, if_neg (fun e => by omega)]
theorem Lp.step_over {w wr : World} {n wl bit v : Nat} {W : Nat → Nat} (h : Lp w wr n wl W) (hv : v < 2 ^ 64) (hq : bit / 64 + 1 < wl) (hov : 64 < bit % 64 + n) :
    Lp w ((wr.setCell ⟨w.heap.size + 1 + 1, bit / 64, none⟩ (.int .u64 (bits BinOp.or IntKind.u64 (W (bit / 64) : Int) (IntKind.u64.wrap ((v : Int) * 2 ^ (bit % 64)))))).setCell ⟨w.heap.size + 1 + 1, bit / 64 + 1, none⟩ (.int .u64 (bits BinOp.or IntKind.u64 (W (bit / 64 + 1) : Int) ((v : Int) / 2 ^ (64 - bit % 64))))).drew.drew n wl (plain.lay W bit n v) := by
  rw [or_lo W bit v (h.lt _), or_hi W bit v (h.lt _) hv]
  have hl := plain.lay_lt W bit n v h.lt hv
  have hmid := h.store (W' := fun j => if j = bit / 64 then W (bit / 64) ||| v * 2 ^ (bit % 64) % 2 ^ 64 else W j) (bit / 64) (by omega) (W (bit / 64) ||| v * 2 ^ (bit % 64) % 2 ^ 64)
    (fun j => by
      show (if j = bit / 64 then W (bit / 64) ||| v * 2 ^ (bit % 64) % 2 ^ 64 else W j) < 2 ^ 64
      split
      · exact Nat.or_lt_two_pow (h.lt _) (Nat.mod_lt _ (by decide))
      · exact h.lt j) (if_pos rfl) (fun j hj => if_neg hj)
  refine ((hmid.store (bit / 64 + 1) hq _ hl ?_ ?_).drew).drew
  · unfold plain.lay
    rw [if_neg (by omega), if_pos ⟨rfl, hov⟩]
  · intro j hj
    unfold plain.lay
    by_cases e : j = bit / 64
    · subst e
      rw [if_pos rfl, if_pos rfl]
    · rw [if_neg e, if_neg e, if_neg (fun h' => hj h'.1)]
/-- What packedOf hands back. -/
def PkPost (V : Nat → Nat) (n len wl : Nat) (w : World) (e : Ending) (w' : World) : Prop :=
  ∃ W : Nat → Nat, e = .returned (.agg #[.int .i64 n, .slice (some ⟨w.heap.size + 1 + 1, 0, none⟩) wl wl]) ∧ plain.Bears W V n len ∧ (∀ j, W j < 2 ^ 64) ∧ (∀ j, j < wl → w'.cell? ⟨w.heap.size + 1 + 1, j, none⟩ = some (.int .u64 (W j))) ∧ Below w.heap.size w w'
set_option maxHeartbeats 400000 in
/-- packedOf at a limit of 2 to 2^31. -/
theorem packed_any (g len x n : Nat) (V : Nat → Nat) (w : World) (hg : g < w.heap.size) (hlen : len ≤ 1024) (hx1 : 1 ≤ x) (hx : x < 2147483648) (hn : Lib.bitLen x = n) (hn1 : 1 ≤ n) (hn2 : n ≤ 31)
    (hV : ∀ j, V j ≤ 2147483647) (hVn : ∀ j, V j < 2 ^ n) (hc : ∀ j, j < len → w.cell? ⟨g, j, none⟩ = some (.int .i32 (V j))) :
    Calls Yba.prog 7 #[.slice (some ⟨g, 0, none⟩) len len, .int .i64 (x + 1)] w (PkPost V n len ((len * n + 63) / 64) w) := by
  have HN : Hid (Lib.bitLen x = n) := hn
  clear hn
  have hm := wl_bd len n hlen hn2
  obtain ⟨P, hP⟩ : ∃ P : Nat, P = len * n := ⟨_, rfl⟩
  obtain ⟨wl, hwl⟩ : ∃ wl : Nat, wl = (P + 63) / 64 := ⟨_, rfl⟩
  have k1 : wrap64 ((len : Int) * (n : Int)) = (P : Int) := by rw [hP]; exact mul_eq len n len (Nat.le_refl _) hlen hn2
  have k2 : ((P : Int) + 63) / 64 = (wl : Int) := by omega
  have k3 := mk22 wl (by omega)
  have k4 : ((n : Int) == 0) = false := by simp; omega
  have HP : Hid (P = len * n) := hP
  have HWL : Hid (wl = (P + 63) / 64) := hwl
  have hPb : P ≤ 31744 := by omega
  have HV : Hid (∀ j, V j ≤ 2147483647) := hV
  have HVn : Hid (∀ j, V j < 2 ^ n) := hVn
  have HC : Hid (∀ j, j < len → w.cell? ⟨g, j, none⟩ = some (.int .i32 (V j))) := hc
  have HX : Hid (x < 2147483648) := hx
  have hxI : (x : Int) ≤ 2147483647 := by omega
  clear hP hwl hm hV hVn hc hx
  go_enter Yba.func7, Yba.ntmps7
  go_wp2_with (go_at_call 8; refine (len_at x n HX.out HN.out _).mono ?_; rintro e w' ⟨rfl, rfl⟩)
  clear k1 k2 k3 k4
  go_loopw [29] (fun t wr => ∃ (k : Nat) (W : Nat → Nat), k ≤ len ∧ t = .int .i64 k ∧ Hid (plain.Bears W V n k) ∧ Lp w wr n wl W) (fun t _ => len - (intOf t).toNat)
  case atStart =>
    refine ⟨0, fun _ => 0, Nat.zero_le _, rfl, plain.bears_zero V n, fun _ => by decide, fun j hj => ?_, fun j hj => ?_, ?_, ?_, ?_, ?_, ?_, ?_, ?_⟩
    · rw [World.cell?_alloc_at _ _ _ _ (by simp)]
      exact made_cell _ _ _ hj
    · rw [World.frozen?_alloc_at _ _ _ _ (by simp)]
    · simp [go_sem]
    · simp [go_sem]
    · simp [go_sem]
    · simp [go_sem]
    · simp [go_sem]
    · simp [go_sem]
    · exact (((Below.refl _ _).alloc (Nat.le_refl _) _).alloc (by simp) _).alloc (by simp; omega) _
  case round =>
    obtain ⟨k, W, hk, rfl, HBr, HL⟩ := hrel
    by_cases hlt : k < len
    · have hk' : (k : Int) < (len : Int) := by omega
      obtain ⟨bit, hbit⟩ : ∃ bit : Nat, bit = k * n := ⟨_, rfl⟩
      have hmul : wrap64 ((k : Int) * (n : Int)) = (bit : Int) := by rw [hbit]; exact mul_eq k n len hk hlen hn2
      have hfit : bit + n ≤ P := by
        have h1 : (k + 1) * n ≤ len * n := Nat.mul_le_mul_right n hlt
        rw [Nat.add_mul, Nat.one_mul] at h1
        rw [hbit, HP.out]; exact h1
      have HB : Hid (bit = k * n) := hbit
      clear hbit
      obtain ⟨v, hv⟩ : ∃ v : Nat, v = V k := ⟨_, rfl⟩
      have hvb : (v : Int) ≤ 2147483647 := by rw [hv]; have := HV.out k; omega
      have c0 : wr.cell? ⟨g, k, none⟩ = some (.int .i32 v) := by rw [hv]; exact (HL.bel.cell (p := ⟨g, k, none⟩) hg).trans (HC.out k hlt)
      have HVk : Hid (v = V k) := hv
      have HV64 : Hid (v < 2 ^ 64) := by show v < 2 ^ 64; omega
      clear hv
      have c1 := HL.p0
      have c2 := HL.p1
      have hwlp := HWL.out
      have hq : bit / 64 < wl := by omega
      have hqI : (bit : Int) / 64 < (wl : Int) := by omega
      have c3 := HL.cells (bit / 64) hq
      have c4 := HL.free (bit / 64) hq
      by_cases hov : bit % 64 + n ≤ 64
      · have hovI : (bit : Int) % 64 + n ≤ 64 := by omega
        clear hwlp
        go_wp2
        go_region
        all_goals go_wp2
        go_roundw
        case rel =>
          refine ⟨k + 1, plain.lay W bit n v, by omega, by go_num, ?_, HL.step_in HV64.out hq hov⟩
          rw [HB.out, HVk.out]
          exact plain.bears_succ W V n k hn1 (by omega) (HVn.out k) HBr.out
        case measure => simp [intOf]; omega
      · have hovI : 64 < (bit : Int) % 64 + n := by omega
        have hq1 : bit / 64 + 1 < wl := by omega
        have hq1I : (bit : Int) / 64 + 1 < (wl : Int) := by omega
        have c5 := HL.cells (bit / 64 + 1) hq1
        have c6 := HL.free (bit / 64 + 1) hq1
        clear hwlp
        go_wp2
        go_region
        all_goals go_wp2
        all_goals go_region
        all_goals go_wp2
        go_roundw
        case rel =>
          refine ⟨k + 1, plain.lay W bit n v, by omega, by go_num, ?_, HL.step_over HV64.out hq1 (by omega)⟩
          rw [HB.out, HVk.out]
          exact plain.bears_succ W V n k hn1 (by omega) (HVn.out k) HBr.out
        case measure => simp [intOf]; omega
    · have hk' : ¬ (k : Int) < (len : Int) := by omega
      have c0 := HL.p0
      have c1 := HL.p1
      have c2 := HL.r0
      have c3 := HL.r1
      have c4 := HL.f0
      have c5 := HL.f1
      go_wp2
      refine bodyPost_ret (v := .agg #[.int .i64 n, .slice (some ⟨w.heap.size + 1 + 1, 0, none⟩) wl wl]) (by simp [results, Yba.results7, go_sem, c2, c3]) rfl ?_
      have hkl : k = len := by omega
      refine ⟨W, by rw [HWL.out, HP.out], by rw [← hkl]; exact HBr.out, HL.lt, fun j hj => ?_, ?_⟩
      · rw [World.cell?_setCell_other _ ⟨w.heap.size, 1, none⟩ ⟨w.heap.size + 1 + 1, j, none⟩ _ (by simp), World.cell?_setCell_other _ ⟨w.heap.size, 0, none⟩ ⟨w.heap.size + 1 + 1, j, none⟩ _ (by simp)]
        exact HL.cells j (by rw [HWL.out, HP.out]; exact hj)
      · exact (HL.bel.setCell (p := ⟨w.heap.size, 0, none⟩) (Nat.le_refl _) _).setCell (p := ⟨w.heap.size, 1, none⟩) (Nat.le_refl _) _
end Go.Proofs.Ybulkbqag.trip
