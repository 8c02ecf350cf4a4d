import Derived.Test.YbulkbpxoBigFrom
namespace Go.Proofs.Ybulkbpxo.big
open Go.ChangeShapes Go.WideShapes Go.ChangeAt Go.RowKit
set_option linter.unusedVariables false
set_option maxHeartbeats 1000000 in
theorem Lsh_word (bz bx b : Nat) (u s : Int) (neg : Bool) (w : World) (hs1 : 0 ≤ s) (hs2 : s ≤ 127) (hu1 : 1 ≤ u) (hu2 : u < 18446744073709551616)
    (hz0 : w.cell? ⟨bz, 0, none⟩ = some (.bool false)) (hz1 : w.cell? ⟨bz, 1, none⟩ = some (.slice none 0 0)) (fz0 : w.frozen? ⟨bz, 0, none⟩ = false) (fz1 : w.frozen? ⟨bz, 1, none⟩ = false)
    (hx0 : w.cell? ⟨bx, 0, none⟩ = some (.bool neg)) (hx1 : w.cell? ⟨bx, 1, none⟩ = some (.slice (some ⟨b, 0, none⟩) 1 1)) (hc : w.cell? ⟨b, 0, none⟩ = some (.int .u64 u)) (hbz : bz < w.heap.size) (hbx : bx < w.heap.size) (hb : b < w.heap.size) (hne : ¬ bz = bx) :
    Calls Yba.prog 8 #[.pointer (some ⟨bz, 0, none⟩), .pointer (some ⟨bx, 0, none⟩), .int .u64 s] w fun e w' => ∃ (g L cap : Nat) (x : Int), e = .returned (.pointer (some ⟨bz, 0, none⟩)) ∧ 1 ≤ L ∧ w'.cell? ⟨bz, 0, none⟩ = some (.bool neg) ∧ w'.cell? ⟨bz, 1, none⟩ = some (.slice (some ⟨g, 0, none⟩) L cap) ∧ w'.cell? ⟨g, 0, none⟩ = some (.int .u64 x) ∧ 0 ≤ x ∧ x < 18446744073709551616 ∧ (L = 1 → x ≠ 0) ∧ Below bz w w' := by
  go_enter Yba.func8, Yba.ntmps8
  go_wp2
  go_region_with (go_at_call 18; refine (lsh_word b u s _ hs1 hs2 hu1 hu2 ?_ ?_).mono ?_; exact hc; exact hb; rintro e w1 ⟨g, L, cap, x, rfl, l1, l2, l3, l4, l5, L6, L7⟩; have c0 := (L7.cell (p := ⟨bz, 0, none⟩) hbz).trans hz0; have c1 := (L7.cell (p := ⟨bz, 1, none⟩) hbz).trans hz1; have c2 := (L7.cell (p := ⟨bx, 0, none⟩) hbx).trans hx0; have c3 := (L7.frozen (p := ⟨bz, 0, none⟩) hbz).trans fz0; have c4 := (L7.frozen (p := ⟨bz, 1, none⟩) hbz).trans fz1; have hgz : bz < g := Nat.lt_of_lt_of_le hbz l2; have l6 : Hid (L = 1 → x ≠ 0) := L6; clear L6)
  all_goals
    go_wp2
    go_ret
    refine ⟨g, L, cap, x, rfl, l1, ?_, ?_, ?_, l4, l5, l6.out, ?_⟩
    · exact World.cell?_setCell_same _ _ _ ((World.cell?_setCell_other _ ⟨bz, 1, none⟩ ⟨bz, 0, none⟩ _ (by simp)).trans c0)
    · exact (World.cell?_setCell_other _ ⟨bz, 0, none⟩ ⟨bz, 1, none⟩ _ (by simp)).trans (World.cell?_setCell_same _ _ _ c1)
    · exact (World.cell?_setCell_other _ ⟨bz, 0, none⟩ ⟨g, 0, none⟩ _ (by first | (simp; done) | (simp; omega))).trans ((World.cell?_setCell_other _ ⟨bz, 1, none⟩ ⟨g, 0, none⟩ _ (by first | (simp; done) | (simp; omega))).trans l3)
    · exact (((Below.refl bz w).drew.trans (L7.mono (Nat.le_of_lt hbz))).setCell (Nat.le_refl _) _).setCell (Nat.le_refl _) _
set_option maxHeartbeats 1000000 in
theorem Lsh_zero (bz bx : Nat) (s : Int) (w : World) 
    (hz0 : w.cell? ⟨bz, 0, none⟩ = some (.bool false)) (hz1 : w.cell? ⟨bz, 1, none⟩ = some (.slice none 0 0)) (fz0 : w.frozen? ⟨bz, 0, none⟩ = false) (fz1 : w.frozen? ⟨bz, 1, none⟩ = false)
    (hx0 : w.cell? ⟨bx, 0, none⟩ = some (.bool false)) (hx1 : w.cell? ⟨bx, 1, none⟩ = some (.slice none 0 0)) (hbz : bz < w.heap.size) (hbx : bx < w.heap.size) (hne : ¬ bz = bx) :
    Calls Yba.prog 8 #[.pointer (some ⟨bz, 0, none⟩), .pointer (some ⟨bx, 0, none⟩), .int .u64 s] w fun e w' => e = .returned (.pointer (some ⟨bz, 0, none⟩)) ∧ w'.cell? ⟨bz, 0, none⟩ = some (.bool false) ∧ w'.cell? ⟨bz, 1, none⟩ = some (.slice none 0 0) ∧ Below bz w w' := by
  go_enter Yba.func8, Yba.ntmps8
  go_wp2
  go_region_with (go_at_call 18; refine (lsh_nil s _).mono ?_; rintro e w1 ⟨rfl, n, rfl⟩)
  all_goals
    go_wp2
    go_ret
    refine ⟨rfl, ?_, ?_, ?_⟩
    · exact World.cell?_setCell_same _ _ _ ((World.cell?_setCell_other _ ⟨bz, 1, none⟩ ⟨bz, 0, none⟩ _ (by simp)).trans hz0)
    · exact (World.cell?_setCell_other _ ⟨bz, 0, none⟩ ⟨bz, 1, none⟩ _ (by simp)).trans (World.cell?_setCell_same _ _ _ hz1)
    · exact ((below_drewN (Below.refl bz w) (1 + n)).setCell (p := ⟨bz, 1, none⟩) (Nat.le_refl _) _).setCell (p := ⟨bz, 0, none⟩) (Nat.le_refl _) _
theorem lt_of_cell {w : World} {b o : Nat} {v : Value} (h : w.cell? ⟨b, o, none⟩ = some v) : b < w.heap.size := by
  rcases Nat.lt_or_ge b w.heap.size with h' | h'
  · exact h'
  · simp [World.cell?, Array.getElem?_eq_none h'] at h
theorem fb_word (b g L cap : Nat) (x sc : Int) (neg : Bool) (w : World) (hL : 1 ≤ L) (hx1 : 0 ≤ x) (hx2 : x < 18446744073709551616) (hx : L = 1 → x ≠ 0)
    (h0 : w.cell? ⟨b, 0, none⟩ = some (.bool neg)) (h1 : w.cell? ⟨b, 1, none⟩ = some (.slice (some ⟨g, 0, none⟩) L cap)) (h2 : w.cell? ⟨g, 0, none⟩ = some (.int .u64 x)) :
    Calls Yba.prog 10 #[.pointer (some ⟨b, 0, none⟩), .int .i64 sc] w (FbPost sc b neg w) := by
  have hb := lt_of_cell h0
  have hg := lt_of_cell h2
  have k0 : (w.alloc (.cells #[.int .i64 0, .pointer none, .int .i64 0] 24)).cell? ⟨b, 0, none⟩ = some (.bool neg) := (World.cell?_alloc_past _ _ _ hb).trans h0
  have k1 : (w.alloc (.cells #[.int .i64 0, .pointer none, .int .i64 0] 24)).cell? ⟨b, 1, none⟩ = some (.slice (some ⟨g, 0, none⟩) L cap) := (World.cell?_alloc_past _ _ _ hb).trans h1
  have k2 : (w.alloc (.cells #[.int .i64 0, .pointer none, .int .i64 0] 24)).cell? ⟨g, 0, none⟩ = some (.int .u64 x) := (World.cell?_alloc_past _ _ _ hg).trans h2
  by_cases h : L = 1
  · subst h
    have hx3 := hx rfl
    cases neg with
    | false =>
      by_cases h3 : x < 9223372036854775808
      · exact fb_small_pos b g cap x sc w (by omega) h3 h0 h1 h2 hb hg
      · exact fb_no b sc false w (is_no_pos b g cap x _ (by omega) hx2 k0 k1 k2)
    | true =>
      by_cases h3 : x < 9223372036854775808
      · exact fb_small_neg b g cap x sc w (by omega) h3 h0 h1 h2 hb hg
      · by_cases h4 : x = 9223372036854775808
        · exact fb_min b g cap x sc w h4 h0 h1 h2 hb hg
        · exact fb_no b sc true w (is_no_neg b g cap x _ (by omega) hx2 k0 k1 k2)
  · exact fb_no b sc neg w (is_long b g L cap neg _ (by omega) k0 k1)
end Go.Proofs.Ybulkbpxo.big
