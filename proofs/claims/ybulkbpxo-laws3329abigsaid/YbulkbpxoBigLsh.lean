import Derived.Test.YbulkbpxoBigParts
import Derived.WalkSmall
namespace Go.Proofs.Ybulkbpxo.big
open Go.ChangeShapes Go.WideShapes Go.ChangeAt Go.RowKit
set_option linter.unusedVariables false
/-- What '(nat).lsh' leaves behind a word that is not 0: a row of its own, its highest word not 0. -/
def LshPost (w : World) (e : Ending) (w' : World) : Prop := ∃ (g L cap : Nat) (x : Int), e = .returned (.slice (some ⟨g, 0, none⟩) L cap) ∧ 1 ≤ L ∧ w.heap.size ≤ g ∧ w'.cell? ⟨g, 0, none⟩ = some (.int .u64 x) ∧ 0 ≤ x ∧ x < 18446744073709551616 ∧ (L = 1 → x ≠ 0) ∧ Below w.heap.size w w'

theorem pow_pos2 (n : Nat) : (0 : Int) < 2 ^ n := Int.pow_pos (by decide)
/-- A word that is not 0, shifted within two words, is not 0. -/
theorem shift_nz (u s : Int) (hs1 : 1 ≤ s) (hs2 : s ≤ 63) (hu1 : 1 ≤ u) (h0 : IntKind.u64.wrap (u * 2 ^ s.toNat) = 0) (h1 : u / 2 ^ (64 - s).toNat = 0) : False := by
  have hp := pow_pos2 s.toNat
  have hq := pow_pos2 (64 - s).toNat
  have hlt : u < 2 ^ (64 - s).toNat := by
    rcases Int.lt_or_le u (2 ^ (64 - s).toNat) with h | h
    · exact h
    · have := Int.le_ediv_of_mul_le hq (by rw [Int.one_mul]; exact h : 1 * 2 ^ (64 - s).toNat ≤ u)
      omega
  have hpq : (2 : Int) ^ (64 - s).toNat * 2 ^ s.toNat = 18446744073709551616 := by
    rw [← Int.pow_add]
    have : (64 - s).toNat + s.toNat = 64 := by omega
    rw [this]; rfl
  have h2 : u * 2 ^ s.toNat < 18446744073709551616 := by rw [← hpq]; exact Int.mul_lt_mul_of_pos_right hlt hp
  have h3 : 0 < u * 2 ^ s.toNat := Int.mul_pos (by omega) hp
  rw [IntKind.wrap_u64] at h0
  omega
theorem shr_bd (u : Int) (n : Nat) (hu1 : 0 ≤ u) (hu2 : u < 18446744073709551616) : 0 ≤ u / 2 ^ n ∧ u / 2 ^ n < 18446744073709551616 :=
  ⟨Int.ediv_nonneg hu1 (Int.le_of_lt (pow_pos2 n)), Int.lt_of_le_of_lt (Int.ediv_le_self _ hu1) hu2⟩

/-- The words behind a shift that stays within one word. -/
def fA (u s : Int) : Nat → Int
  | 0 => IntKind.u64.wrap (u * 2 ^ s.toNat)
  | 1 => u / 2 ^ (64 - s).toNat
  | _ => 0
theorem lsh_word_A (b : Nat) (u s : Int) (w : World) (hs1 : 1 ≤ s) (hs2 : s ≤ 63) (hu1 : 1 ≤ u) (hu2 : u < 18446744073709551616) (hc : w.cell? ⟨b, 0, none⟩ = some (.int .u64 u)) (hb : b < w.heap.size) :
    Calls Yba.prog 18 #[.slice none 0 0, .slice (some ⟨b, 0, none⟩) 1 1, .int .u64 s] w (LshPost w) := by
  have e1 : (s == 0) = false := by simp; omega
  have e2 : s / 64 = 0 := by omega
  have e3 : s % 64 = s := by omega
  have k1 := clr0
  have k2 := lshVU_enters
  go_enter Yba.func18, Yba.ntmps18
  go_wp2_with (first | (go_at_call 24; refine (make_2 _).mono ?_; rintro e w' ⟨rfl, rfl⟩) | (go_at_call 14; refine (lshVU_1 _ b _ _ _ u s 0 _ hs1 hs2 hu1 hu2 ?_ ?_ ?_).mono ?_; (simp [go_sem, hc, hb]); (simp [go_sem]); (simp [go_sem]); rintro e w' ⟨rfl, rfl⟩) | (go_at_call 26; refine (norm_any w.heap.size 2 6 (fA u s) _ (by omega) (by omega) ?_).mono ?_))
  · intro j hj
    rw [World.cell?_alloc_at _ _ _ _ rfl]
    match j, hj with
    | 0, _ => rfl
    | 1, _ => rfl
  · rintro e w' ⟨k, hk, rfl, H1, H2, rfl⟩
    have h1 : Hid (∀ m, k = m + 1 → fA u s m ≠ 0) := H1
    have h2 : Hid (∀ j, k ≤ j → j < 2 → fA u s j = 0) := H2
    clear H1 H2
    go_wp2
    go_ret
    have hk1 : 1 ≤ k := by
      rcases Nat.eq_zero_or_pos k with h | h
      · exact (shift_nz u s hs1 hs2 hu1 (h2.out 0 (by omega) (by omega)) (h2.out 1 (by omega) (by omega))).elim
      · exact h
    refine ⟨w.heap.size, k, 6, fA u s 0, rfl, hk1, Nat.le_refl _, by rw [World.cell?_alloc_at _ _ _ _ rfl]; rfl, wrap_u64_nonneg _, ?_, fun e => h1.out 0 e, (Below.refl _ _).alloc (Nat.le_refl _) _⟩
    show IntKind.u64.wrap _ < _
    rw [IntKind.wrap_u64]; omega
def fB (u : Int) : Nat → Int
  | 1 => u
  | _ => 0
theorem lsh_word_B (b : Nat) (u : Int) (w : World) (hu1 : 1 ≤ u) (hu2 : u < 18446744073709551616) (hc : w.cell? ⟨b, 0, none⟩ = some (.int .u64 u)) (hb : b < w.heap.size) :
    Calls Yba.prog 18 #[.slice none 0 0, .slice (some ⟨b, 0, none⟩) 1 1, .int .u64 64] w (LshPost w) := by
  have k1 := clr1 w
  have k2 := cp64 w b u hc hb
  go_enter Yba.func18, Yba.ntmps18
  go_wp2_with (first | (go_at_call 24; refine (make_3 _).mono ?_; rintro e w' ⟨rfl, rfl⟩) | (go_at_call 26; refine (norm_any w.heap.size 3 7 (fB u) _ (by omega) (by omega) ?_).mono ?_))
  · intro j hj
    rw [World.cell?_alloc_at _ _ _ _ rfl]
    match j, hj with
    | 0, _ => rfl
    | 1, _ => rfl
    | 2, _ => rfl
  · rintro e w' ⟨k, hk, rfl, H1, H2, rfl⟩
    have h1 : Hid (∀ m, k = m + 1 → fB u m ≠ 0) := H1
    have h2 : Hid (∀ j, k ≤ j → j < 3 → fB u j = 0) := H2
    clear H1 H2
    go_wp2
    go_ret
    have hk1 : 2 ≤ k := by
      rcases Nat.lt_or_ge k 2 with h | h
      · have := h2.out 1 (by omega) (by omega)
        simp [fB] at this
        omega
      · exact h
    exact ⟨w.heap.size, k, 7, 0, rfl, by omega, Nat.le_refl _, by rw [World.cell?_alloc_at _ _ _ _ rfl]; rfl, by decide, by decide, fun e => by omega, (Below.refl _ _).alloc (Nat.le_refl _) _⟩
def fC (u s : Int) : Nat → Int
  | 1 => IntKind.u64.wrap (u * 2 ^ s.toNat)
  | 2 => u / 2 ^ (64 - s).toNat
  | _ => 0
theorem lsh_word_C (b : Nat) (u s : Int) (w : World) (hs1 : 65 ≤ s) (hs2 : s ≤ 127) (hu1 : 1 ≤ u) (hu2 : u < 18446744073709551616) (hc : w.cell? ⟨b, 0, none⟩ = some (.int .u64 u)) (hb : b < w.heap.size) :
    Calls Yba.prog 18 #[.slice none 0 0, .slice (some ⟨b, 0, none⟩) 1 1, .int .u64 s] w (LshPost w) := by
  have e1 : (s == 0) = false := by simp; omega
  have e2 : s / 64 = 1 := by omega
  have e3 : s % 64 = s - 64 := by omega
  have e4 : (s - 64 == 0) = false := by simp; omega
  have k1 := clr1 w
  have k2 := lshVU_enters
  go_enter Yba.func18, Yba.ntmps18
  go_wp2_with (first | (go_at_call 24; refine (make_3 _).mono ?_; rintro e w' ⟨rfl, rfl⟩) | (go_at_call 14; refine (lshVU_1 _ b _ _ _ u (s - 64) 0 _ (by omega) (by omega) hu1 hu2 ?_ ?_ ?_).mono ?_; (simp [go_sem, hc, hb]); (simp [go_sem]); (simp [go_sem]); rintro e w' ⟨rfl, rfl⟩) | (go_at_call 26; refine (norm_any w.heap.size 3 7 (fC u (s - 64)) _ (by omega) (by omega) ?_).mono ?_))
  · intro j hj
    rw [World.cell?_alloc_at _ _ _ _ rfl]
    match j, hj with
    | 0, _ => rfl
    | 1, _ => rfl
    | 2, _ => rfl
  · rintro e w' ⟨k, hk, rfl, H1, H2, rfl⟩
    have h1 : Hid (∀ m, k = m + 1 → fC u (s - 64) m ≠ 0) := H1
    have h2 : Hid (∀ j, k ≤ j → j < 3 → fC u (s - 64) j = 0) := H2
    clear H1 H2
    go_wp2
    go_ret
    have hk1 : 2 ≤ k := by
      rcases Nat.lt_or_ge k 2 with h | h
      · exact (shift_nz u (s - 64) (by omega) (by omega) hu1 (h2.out 1 (by omega) (by omega)) (h2.out 2 (by omega) (by omega))).elim
      · exact h
    exact ⟨w.heap.size, k, 7, 0, rfl, by omega, Nat.le_refl _, by rw [World.cell?_alloc_at _ _ _ _ rfl]; rfl, by decide, by decide, fun e => by omega, (Below.refl _ _).alloc (Nat.le_refl _) _⟩
/-- All shifts below 128. -/
theorem lsh_word (b : Nat) (u s : Int) (w : World) (hs1 : 0 ≤ s) (hs2 : s ≤ 127) (hu1 : 1 ≤ u) (hu2 : u < 18446744073709551616) (hc : w.cell? ⟨b, 0, none⟩ = some (.int .u64 u)) (hb : b < w.heap.size) :
    Calls Yba.prog 18 #[.slice none 0 0, .slice (some ⟨b, 0, none⟩) 1 1, .int .u64 s] w (LshPost w) := by
  rcases (show s = 0 ∨ (1 ≤ s ∧ s ≤ 63) ∨ s = 64 ∨ 65 ≤ s by omega) with h | ⟨h, h'⟩ | h | h
  · subst h
    refine (lsh_word_0 b u w hc hb).mono ?_
    rintro e w' ⟨rfl, n, rfl⟩
    exact ⟨w.heap.size, 1, 1, u, rfl, Nat.le_refl _, Nat.le_refl _, (World.cell?_alloc_at (w := w.drewN n) _ _ w.heap.size 0 rfl).trans rfl, by omega, hu2, fun _ => by omega, (below_drewN (Below.refl _ _) n).alloc (Nat.le_refl _) _⟩
  · exact lsh_word_A b u s w h h' hu1 hu2 hc hb
  · subst h; exact lsh_word_B b u w hu1 hu2 hc hb
  · exact lsh_word_C b u s w h hs2 hu1 hu2 hc hb
theorem lsh_nil (s : Int) (w : World) : Calls Yba.prog 18 #[.slice none 0 0, .slice none 0 0, .int .u64 s] w fun e w' => e = .returned (.slice none 0 0) ∧ ∃ n, w' = w.drewN n := by
  by_cases h : s = 0
  · subst h; exact lsh_nil_0 w
  · refine (lsh_nil_s s (by simpa using h) w).mono ?_
    rintro e w' ⟨rfl, rfl⟩
    exact ⟨rfl, 0, rfl⟩
end Go.Proofs.Ybulkbpxo.big
