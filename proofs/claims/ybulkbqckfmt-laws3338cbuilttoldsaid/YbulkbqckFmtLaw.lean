import Derived.Test.YbulkbqckFmtStakes
namespace Go.Proofs.YbulkbqckFmt.walks
open Go.ChangeShapes Go.WideShapes Go.ChangeAt Go.RowKit
set_option linter.unusedVariables false
theorem sum_mod (s x y : Nat) (hx : x = s % 18446744073709551616) : (x + y + 0) % 18446744073709551616 = (s + y) % 18446744073709551616 := by omega
theorem carry_no (s x y : Nat) (hx : x = s % 18446744073709551616) (h : x + y < 18446744073709551616) : decide (18446744073709551616 ≤ s) = decide (18446744073709551616 ≤ s + y) := by
  by_cases e1 : 18446744073709551616 ≤ s
  · have e2 : 18446744073709551616 ≤ s + y := by omega
    simp only [e1, e2]
  · have e2 : ¬ 18446744073709551616 ≤ s + y := by omega
    simp only [e1, e2]
theorem carry_yes (s x y : Nat) (hx : x = s % 18446744073709551616) (h : ¬ x + y < 18446744073709551616) : true = decide (18446744073709551616 ≤ s + y) := by
  have e2 : 18446744073709551616 ≤ s + y := by omega
  simp only [e2, decide_true]
set_option maxHeartbeats 1000000 in
theorem walk_n (a0 : Option Addr) (len0 n cap u t : Nat) (Z : Nat → Nat) (w : World) (hn : n ≤ 64) (hln : (len0 = n ∧ len0 ≤ 64) ∨ (64 < len0 ∧ n = 64 ∧ 64 < cap)) (hu : u < 2 ^ 64) (ht : t < 2 ^ 64) (hZ : ∀ j, Z j < 2 ^ 64) (hr : ∀ j, j < n → ∃ b off, a0 = some ⟨b, off, none⟩ ∧ w.cell? ⟨b, off + j, none⟩ = some (.int .u64 (Z j)) ∧ b < w.heap.size) :
    Calls Ybaf.prog 3 #[.slice a0 len0 cap, .int .u64 u, .int .u64 t] w fun e w' => e = .returned (.bool true) ∧ Below w.heap.size w w' := by
  have HR : Hid (∀ j, j < n → ∃ b off, a0 = some ⟨b, off, none⟩ ∧ w.cell? ⟨b, off + j, none⟩ = some (.int .u64 (Z j)) ∧ b < w.heap.size) := hr
  have HZ : Hid (∀ j, Z j < 2 ^ 64) := hZ
  have HU : Hid (u < 2 ^ 64) := hu
  have HT : Hid (t < 2 ^ 64) := ht
  clear hr hZ hu ht
  rcases hln with ⟨rfl, hle⟩ | ⟨hgt, rfl, hcap⟩
  · have hle' : ¬ (64 : Int) < (len0 : Int) := by omega
    go_enter Ybaf.func3, Ybaf.ntmps3
    go_wp2
    go_loop [8, 9, 10] (fun s o i => ∃ (k x : Nat) (ov : Bool), k ≤ len0 ∧ i = .int .i64 k ∧ s = .int .u64 x ∧ o = .bool ov ∧ Hid (x = S Z k % 18446744073709551616) ∧ Hid (ov = decide (18446744073709551616 ≤ S Z k))) (fun _ _ i => len0 - (intOf i).toNat)
    case atStart => exact ⟨0, 0, false, Nat.zero_le _, rfl, rfl, rfl, rfl, rfl⟩
    case round =>
      obtain ⟨k, x, ov, hk, rfl, rfl, rfl, HX, HO⟩ := hrel
      by_cases hlt : k < len0
      · have hlt' : (k : Int) < (len0 : Int) := by omega
        obtain ⟨b1, off1, ha, hc, hb⟩ := HR.out k hlt
        cases ha
        obtain ⟨y, hy⟩ : ∃ y : Nat, y = Z k := ⟨_, rfl⟩
        rw [← hy] at hc
        have hyl : y < 18446744073709551616 := by rw [hy]; exact HZ.out k
        obtain ⟨z, hz⟩ : ∃ z : Nat, z = (x + y + 0) % 18446744073709551616 := ⟨_, rfl⟩
        have HZZ : Hid (z = S Z (k + 1) % 18446744073709551616) := by
          show z = (S Z k + Z k) % 18446744073709551616
          rw [hz, ← hy]
          exact sum_mod (S Z k) x y HX.out
        have hxl : x < 18446744073709551616 := by rw [HX.out]; omega
        by_cases hov : x + y < 18446744073709551616
        · have k1 : ∀ w, (callFunc 4 #[.int .u64 x, .int .u64 y, .int .u64 0]).run Ybaf.prog w = .ok (.value (.tuple #[.int .u64 (z : Int), .int .u64 0])) w := fun w => by
            have := add64 x y 0 (by omega) w
            have e2 : (x + y + 0) / 18446744073709551616 = 0 := by omega
            rw [e2, ← hz] at this
            exact this
          have HOO : Hid (ov = decide (18446744073709551616 ≤ S Z (k + 1))) := by
            show ov = decide (18446744073709551616 ≤ S Z k + Z k)
            rw [HO.out, ← hy]
            exact carry_no (S Z k) x y HX.out hov
          clear hov hz hy hyl hxl HX HO
          go_wp2
          go_round
          case rel => exact ⟨k + 1, z, ov, by omega, by go_num, rfl, rfl, HZZ, HOO⟩
          case measure => simp [intOf]; omega
        · have k1 : ∀ w, (callFunc 4 #[.int .u64 x, .int .u64 y, .int .u64 0]).run Ybaf.prog w = .ok (.value (.tuple #[.int .u64 (z : Int), .int .u64 1])) w := fun w => by
            have := add64 x y 0 (by omega) w
            have e2 : (x + y + 0) / 18446744073709551616 = 1 := by omega
            rw [e2, ← hz] at this
            exact this
          have HOO : Hid (true = decide (18446744073709551616 ≤ S Z (k + 1))) := by
            show true = decide (18446744073709551616 ≤ S Z k + Z k)
            rw [← hy]
            exact carry_yes (S Z k) x y HX.out hov
          clear hov hz hy hyl hxl HX HO
          go_wp2
          go_round
          case rel => exact ⟨k + 1, z, true, by omega, by go_num, rfl, rfl, HZZ, HOO⟩
          case measure => simp [intOf]; omega
      · have hlt' : ¬ (k : Int) < (len0 : Int) := by omega
        have hkn : k = len0 := by omega
        rw [hkn] at HX HO
        go_wp2_with fail
        refine (newStakes_any a0 len0 cap Z w hn HZ.out HR.out).mono ?_
        rintro e w2 hpost
        rcases hpost with ⟨hbad, p, rfl, hbel⟩ | ⟨hlt64, hpos, g, m, cp, rfl, hbel⟩
        · have HB : Hid (Below w.heap.size w w2) := hbel
          by_cases hbig : 18446744073709551616 ≤ S Z len0
          · have hov : ov = true := by rw [HO.out]; simp only [hbig, decide_true]
            subst hov
            clear hbel HX HO HR HZ
            go_wp2
            go_ret
            exact ⟨rfl, HB.out.alloc HB.out.size _⟩
          · have hx0 : x = 0 := by
              have : S Z len0 = 0 := by
                rcases hbad with h | h
                · exact (hbig h).elim
                · exact h
              rw [HX.out, this]
            have hov : ov = false := by rw [HO.out]; simp only [hbig, decide_false]
            subst hx0
            subst hov
            clear hbel HX HO HR HZ
            go_wp2
            go_ret
            exact ⟨rfl, HB.out.alloc HB.out.size _⟩
        · have HB : Hid (Below w.heap.size w w2) := hbel
          have hM : S Z len0 < 18446744073709551616 := hlt64
          have hx : x = S Z len0 := by rw [HX.out]; omega
          have hov : ov = false := by
            rw [HO.out]
            have : ¬ 18446744073709551616 ≤ S Z len0 := by omega
            simp only [this, decide_false]
          subst hov
          rw [← hx] at hlt64 hpos
          rw [← hx]
          have hx0 : ((x : Int) == 0) = false := by simp; omega
          have HXL : Hid (x < 2 ^ 64) := hlt64
          clear hbel HX HO HR HZ hM hx hlt64
          go_wp2_with fail
          refine (reaches_any _ u t x _ _ _ _ HU.out HT.out HXL.out rfl rfl rfl rfl _).mono ?_
          rintro e w' ⟨rfl, cs, rfl⟩
          go_wp2_with fail
          refine (model_any u t x _ _ _ _ HU.out HT.out HXL.out rfl rfl rfl rfl _).mono ?_
          rintro e w' ⟨rfl, rfl⟩
          go_wp2
          go_ret
          exact ⟨rfl, (HB.out.alloc HB.out.size _).alloc (Nat.le_trans HB.out.size (by simp)) _⟩
  · have hgt' : (64 : Int) < (len0 : Int) := by omega
    obtain ⟨b, off, rfl, _, _⟩ := HR.out 0 (by omega)
    have hcap' : (64 : Int) < (cap : Int) := by omega
    go_enter Ybaf.func3, Ybaf.ntmps3
    go_wp2
    go_loop [8, 9, 10] (fun s o i => ∃ (k x : Nat) (ov : Bool), k ≤ 64 ∧ i = .int .i64 k ∧ s = .int .u64 x ∧ o = .bool ov ∧ Hid (x = S Z k % 18446744073709551616) ∧ Hid (ov = decide (18446744073709551616 ≤ S Z k))) (fun _ _ i => 64 - (intOf i).toNat)
    case atStart => exact ⟨0, 0, false, Nat.zero_le _, rfl, rfl, rfl, rfl, rfl⟩
    case round =>
      obtain ⟨k, x, ov, hk, rfl, rfl, rfl, HX, HO⟩ := hrel
      by_cases hlt : k < 64
      · have hlt' : (k : Int) < 64 := by omega
        obtain ⟨b1, off1, ha, hc, hb⟩ := HR.out k hlt
        cases ha
        obtain ⟨y, hy⟩ : ∃ y : Nat, y = Z k := ⟨_, rfl⟩
        rw [← hy] at hc
        have hyl : y < 18446744073709551616 := by rw [hy]; exact HZ.out k
        obtain ⟨z, hz⟩ : ∃ z : Nat, z = (x + y + 0) % 18446744073709551616 := ⟨_, rfl⟩
        have HZZ : Hid (z = S Z (k + 1) % 18446744073709551616) := by
          show z = (S Z k + Z k) % 18446744073709551616
          rw [hz, ← hy]
          exact sum_mod (S Z k) x y HX.out
        have hxl : x < 18446744073709551616 := by rw [HX.out]; omega
        by_cases hov : x + y < 18446744073709551616
        · have k1 : ∀ w, (callFunc 4 #[.int .u64 x, .int .u64 y, .int .u64 0]).run Ybaf.prog w = .ok (.value (.tuple #[.int .u64 (z : Int), .int .u64 0])) w := fun w => by
            have := add64 x y 0 (by omega) w
            have e2 : (x + y + 0) / 18446744073709551616 = 0 := by omega
            rw [e2, ← hz] at this
            exact this
          have HOO : Hid (ov = decide (18446744073709551616 ≤ S Z (k + 1))) := by
            show ov = decide (18446744073709551616 ≤ S Z k + Z k)
            rw [HO.out, ← hy]
            exact carry_no (S Z k) x y HX.out hov
          clear hov hz hy hyl hxl HX HO
          go_wp2
          go_round
          case rel => exact ⟨k + 1, z, ov, by omega, by go_num, rfl, rfl, HZZ, HOO⟩
          case measure => simp [intOf]; omega
        · have k1 : ∀ w, (callFunc 4 #[.int .u64 x, .int .u64 y, .int .u64 0]).run Ybaf.prog w = .ok (.value (.tuple #[.int .u64 (z : Int), .int .u64 1])) w := fun w => by
            have := add64 x y 0 (by omega) w
            have e2 : (x + y + 0) / 18446744073709551616 = 1 := by omega
            rw [e2, ← hz] at this
            exact this
          have HOO : Hid (true = decide (18446744073709551616 ≤ S Z (k + 1))) := by
            show true = decide (18446744073709551616 ≤ S Z k + Z k)
            rw [← hy]
            exact carry_yes (S Z k) x y HX.out hov
          clear hov hz hy hyl hxl HX HO
          go_wp2
          go_round
          case rel => exact ⟨k + 1, z, true, by omega, by go_num, rfl, rfl, HZZ, HOO⟩
          case measure => simp [intOf]; omega
      · have hlt' : ¬ (k : Int) < 64 := by omega
        have hkn : k = 64 := by omega
        rw [hkn] at HX HO
        go_wp2_with fail
        refine (newStakes_any _ 64 cap Z w hn HZ.out HR.out).mono ?_
        rintro e w2 hpost
        rcases hpost with ⟨hbad, p, rfl, hbel⟩ | ⟨hlt64, hpos, g, m, cp, rfl, hbel⟩
        · have HB : Hid (Below w.heap.size w w2) := hbel
          by_cases hbig : 18446744073709551616 ≤ S Z 64
          · have hov : ov = true := by rw [HO.out]; simp only [hbig, decide_true]
            subst hov
            clear hbel HX HO HR HZ
            go_wp2
            go_ret
            exact ⟨rfl, HB.out.alloc HB.out.size _⟩
          · have hx0 : x = 0 := by
              have : S Z 64 = 0 := by
                rcases hbad with h | h
                · exact (hbig h).elim
                · exact h
              rw [HX.out, this]
            have hov : ov = false := by rw [HO.out]; simp only [hbig, decide_false]
            subst hx0
            subst hov
            clear hbel HX HO HR HZ
            go_wp2
            go_ret
            exact ⟨rfl, HB.out.alloc HB.out.size _⟩
        · have HB : Hid (Below w.heap.size w w2) := hbel
          have hM : S Z 64 < 18446744073709551616 := hlt64
          have hx : x = S Z 64 := by rw [HX.out]; omega
          have hov : ov = false := by
            rw [HO.out]
            have : ¬ 18446744073709551616 ≤ S Z 64 := by omega
            simp only [this, decide_false]
          subst hov
          rw [← hx] at hlt64 hpos
          rw [← hx]
          have hx0 : ((x : Int) == 0) = false := by simp; omega
          have HXL : Hid (x < 2 ^ 64) := hlt64
          clear hbel HX HO HR HZ hM hx hlt64
          go_wp2_with fail
          refine (reaches_any _ u t x _ _ _ _ HU.out HT.out HXL.out rfl rfl rfl rfl _).mono ?_
          rintro e w' ⟨rfl, cs, rfl⟩
          go_wp2_with fail
          refine (model_any u t x _ _ _ _ HU.out HT.out HXL.out rfl rfl rfl rfl _).mono ?_
          rintro e w' ⟨rfl, rfl⟩
          go_wp2
          go_ret
          exact ⟨rfl, (HB.out.alloc HB.out.size _).alloc (Nat.le_trans HB.out.size (by simp)) _⟩
end Go.Proofs.YbulkbqckFmt.walks
