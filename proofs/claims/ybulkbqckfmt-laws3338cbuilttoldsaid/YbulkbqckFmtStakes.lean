import Derived.Test.YbulkbqckFmtWalks
import Derived.WalkSmall
namespace Go.Proofs.YbulkbqckFmt.walks
open Go.ChangeShapes Go.WideShapes Go.ChangeAt Go.RowKit
set_option linter.unusedVariables false

/-- The sum of the first k stakes. -/
def S (Z : Nat → Nat) : Nat → Nat
  | 0 => 0
  | k + 1 => S Z k + Z k
theorem S_mono (Z : Nat → Nat) (k m : Nat) (h : k ≤ m) : S Z k ≤ S Z m := by
  induction m with
  | zero => obtain rfl : k = 0 := by omega
            exact Nat.le_refl _
  | succ m ih =>
    by_cases e : k = m + 1
    · subst e; exact Nat.le_refl _
    · have := ih (by omega)
      show S Z k ≤ S Z m + Z m
      omega
/-- NewStakes refuses. -/
def NsErr (w : World) (e : Ending) (w' : World) : Prop := ∃ p : Nat, e = .returned (.tuple #[.agg #[.slice none 0 0, .int .u64 0], .iface 41 (.pointer (some ⟨p, 0, none⟩))]) ∧ Below w.heap.size w w'
/-- NewStakes makes the stakes. -/
def NsOk (total : Nat) (w : World) (e : Ending) (w' : World) : Prop := ∃ g m cp : Nat, e = .returned (.tuple #[.agg #[.slice (some ⟨g, 0, none⟩) m cp, .int .u64 total], .nilIface]) ∧ Below w.heap.size w w'
def NsPost (total : Nat) (w : World) (e : Ending) (w' : World) : Prop :=
  ((2 ^ 64 ≤ total ∨ total = 0) ∧ NsErr w e w') ∨ (total < 2 ^ 64 ∧ 0 < total ∧ NsOk total w e w')
theorem info23 : (Ybaf.prog.info? 23).map (fun i => (i.zero, i.size, i.bytes)) = some (some (.int .u64 0), 1, 8) := by kernel_rfl
theorem app_shape {w : World} {base e : Nat} {v : Value} {k : Nat} {xs : List Value} (h : w.ownsRow base e 1 v (0 + k) xs) (hk : 0 < k) : ∃ g cp, v = .slice (some ⟨g, 0, none⟩) k cp := by
  obtain ⟨_, ⟨_, h0⟩ | ⟨g, cp, cur, hv, _⟩⟩ := h
  · omega
  · rw [Nat.zero_add] at hv
    exact ⟨g, cp, hv⟩
/-- What append leaves of the result's own variable, and of all that was there. -/
theorem app_rest {w w1 : World} {c0 c1 : Value} (h : (w.alloc (.cells #[c0, c1] 27)).grownBy w1 none) :
    w1.cell? ⟨w.heap.size, 0, none⟩ = some c0 ∧ w1.cell? ⟨w.heap.size, 1, none⟩ = some c1 ∧ w1.frozen? ⟨w.heap.size, 0, none⟩ = false ∧ w1.frozen? ⟨w.heap.size, 1, none⟩ = false ∧ Below w.heap.size w w1 := by
  have hb := h.block w.heap.size (by simp) (by simp)
  refine ⟨(World.cell?_of_block (a := ⟨w.heap.size, 0, none⟩) hb).trans ?_, (World.cell?_of_block (a := ⟨w.heap.size, 1, none⟩) hb).trans ?_, (World.frozen?_of_block (a := ⟨w.heap.size, 0, none⟩) hb).trans ?_, (World.frozen?_of_block (a := ⟨w.heap.size, 1, none⟩) hb).trans ?_, ?_⟩
  · rw [World.cell?_alloc_at _ _ _ _ rfl]; rfl
  · rw [World.cell?_alloc_at _ _ _ _ rfl]; rfl
  · rw [World.frozen?_alloc_at _ _ _ _ rfl]
  · rw [World.frozen?_alloc_at _ _ _ _ rfl]
  · exact ((Below.refl _ _).alloc (Nat.le_refl _) _).grown h (by simp) (fun k hk => by cases hk)
set_option maxHeartbeats 1000000 in
theorem newStakes_any (a0 : Option Addr) (n cap : Nat) (Z : Nat → Nat) (w : World) (hn : n ≤ 64) (hZ : ∀ j, Z j < 2 ^ 64) (hr : ∀ j, j < n → ∃ b off, a0 = some ⟨b, off, none⟩ ∧ w.cell? ⟨b, off + j, none⟩ = some (.int .u64 (Z j)) ∧ b < w.heap.size) :
    Calls Ybaf.prog 5 #[.slice a0 n cap] w (NsPost (S Z n) w) := by
  have hn' : ¬ (64 : Int) < (n : Int) := by omega
  have HR : Hid (∀ j, j < n → ∃ b off, a0 = some ⟨b, off, none⟩ ∧ w.cell? ⟨b, off + j, none⟩ = some (.int .u64 (Z j)) ∧ b < w.heap.size) := hr
  have HZ : Hid (∀ j, Z j < 2 ^ 64) := hZ
  clear hr hZ
  go_enter Ybaf.func5, Ybaf.ntmps5
  go_wp2
  go_loop [4, 20] (fun t i => ∃ k x : Nat, k ≤ n ∧ i = .int .i64 k ∧ t = .int .u64 x ∧ Hid (x = S Z k) ∧ Hid (x < 2 ^ 64)) (fun _ i => n - (intOf i).toNat)
  case atStart => exact ⟨0, 0, Nat.zero_le _, rfl, rfl, rfl, by show (0 : Nat) < 2 ^ 64; decide⟩
  case round =>
    obtain ⟨k, x, hk, rfl, rfl, HX, HXl⟩ := hrel
    by_cases hlt : k < n
    · have hlt' : (k : Int) < (n : Int) := by omega
      obtain ⟨b, off, rfl, hc, hb⟩ := HR.out k hlt
      obtain ⟨y, hy⟩ : ∃ y : Nat, y = Z k := ⟨_, rfl⟩
      rw [← hy] at hc
      have hyl : y < 2 ^ 64 := by rw [hy]; exact HZ.out k
      have hS : S Z (k + 1) = x + y := by rw [HX.out, hy]; rfl
      have hxl := HXl.out
      by_cases hov : x + y < 2 ^ 64
      · have k1 : ∀ w, (callFunc 4 #[.int .u64 x, .int .u64 y, .int .u64 0]).run Ybaf.prog w = .ok (.value (.tuple #[.int .u64 ((x + y : Nat) : Int), .int .u64 0])) w := fun w => by
          have := add64 x y 0 (by omega) w
          have e1 : (x + y + 0) % 18446744073709551616 = x + y := by omega
          have e2 : (x + y + 0) / 18446744073709551616 = 0 := by omega
          rw [e1, e2] at this
          exact this
        obtain ⟨z, hz⟩ : ∃ z : Nat, z = x + y := ⟨_, rfl⟩
        rw [← hz] at hov k1 hS
        have HS : Hid (z = S Z (k + 1)) := hS.symm
        have HO : Hid (z < 2 ^ 64) := hov
        clear hov hz hS hy hyl hxl HX HXl
        go_wp2
        go_round
        case rel => exact ⟨k + 1, z, by omega, by go_num, rfl, HS, HO⟩
        case measure => simp [intOf]; omega
      · obtain ⟨m, k1⟩ : ∃ m : Int, ∀ w, (callFunc 4 #[.int .u64 x, .int .u64 y, .int .u64 0]).run Ybaf.prog w = .ok (.value (.tuple #[.int .u64 m, .int .u64 1])) w := ⟨_, fun w => by
          have := add64 x y 0 (by omega) w
          have e2 : (x + y + 0) / 18446744073709551616 = 1 := by omega
          rw [e2] at this
          exact this⟩
        have HO : Hid (2 ^ 64 ≤ S Z n) := by
          show 2 ^ 64 ≤ S Z n
          have := S_mono Z (k + 1) n hlt
          omega
        clear hov hS hy hyl hxl HX HXl
        go_wp2
        refine bodyPost_ret (v := .tuple #[.agg #[.slice none 0 0, .int .u64 0], .iface 41 (.pointer (some ⟨w.heap.size + 1, 0, none⟩))]) (by simp [results, Ybaf.results5, go_sem]) rfl ?_
        exact .inl ⟨.inl HO.out, w.heap.size + 1, rfl, ((Below.refl _ _).alloc (Nat.le_refl _) _).alloc (by simp) _⟩
    · have hlt' : ¬ (k : Int) < (n : Int) := by omega
      obtain rfl : k = n := by omega
      by_cases hx0 : x = 0
      · subst hx0
        go_wp2
        refine bodyPost_ret (v := .tuple #[.agg #[.slice none 0 0, .int .u64 0], .iface 41 (.pointer (some ⟨w.heap.size + 1, 0, none⟩))]) (by simp [results, Ybaf.results5, go_sem]) rfl ?_
        exact .inl ⟨.inr HX.out.symm, w.heap.size + 1, rfl, ((Below.refl _ _).alloc (Nat.le_refl _) _).alloc (by simp) _⟩
      · have hx0' : ((x : Int) == 0) = false := by simp; omega
        have hk1 : 0 < k := by
          rcases Nat.eq_zero_or_pos k with e | e
          · subst e
            exact (hx0 HX.out).elim
          · exact e
        obtain ⟨b, off, rfl, _, hb⟩ := HR.out 0 hk1
        have hcells : ∀ j u, ((List.range k).map (fun j => Value.int .u64 (Z j)))[j]? = some u → (w.alloc (.cells #[.slice none 0 0, .int .u64 0] 27)).cell? ((⟨b, off, none⟩ : Addr).add j) = some u := by
          intro j u hj
          have hjk : j < k := by
            have := (List.getElem?_eq_some_iff.1 hj).1
            simpa using this
          obtain ⟨b', off', e, hc, hb'⟩ := HR.out j hjk
          obtain ⟨rfl, rfl⟩ : b = b' ∧ off = off' := by
            simp only [Option.some.injEq, Addr.mk.injEq] at e
            exact ⟨e.1, e.2.1⟩
          rw [add_plain, World.cell?_alloc_past _ _ _ hb', hc]
          rw [List.getElem?_map] at hj
          simpa [hjk] using hj
        have hone : ∀ u ∈ (List.range k).map (fun j => Value.int .u64 (Z j)), u.oneCell' = true := by
          intro u hu
          obtain ⟨y, _, rfl⟩ := List.mem_map.1 hu
          rfl
        obtain ⟨i0, hi, hz0, hz1, hz2⟩ := info_parts info23
        have HC : Hid (∀ j u, ((List.range k).map (fun j => Value.int .u64 (Z j)))[j]? = some u → (w.alloc (.cells #[.slice none 0 0, .int .u64 0] 27)).cell? ((⟨b, off, none⟩ : Addr).add j) = some u) := hcells
        have HI : Hid (Ybaf.prog.info? 23 = some i0) := hi
        have HZ0 : Hid (i0.zero = some (.int .u64 0)) := hz0
        have HZ1 : Hid (i0.size = 1) := hz1
        have HZ2 : Hid (i0.bytes = 8) := hz2
        have HON : Hid (∀ u ∈ (List.range k).map (fun j => Value.int .u64 (Z j)), u.oneCell' = true) := hone
        clear hcells hi hz0 hz1 hz2 hone HR
        go_wp2_with (at_builtin; (refine wpList_append_own _ rfl _ _ 22 rfl w.heap.size 23 i0 (.int .u64 0) 1 8 Ybaf.underlying22 HI.out HZ0.out HZ1.out HZ2.out rfl (by decide) (.slice none 0 0) 0 [] rfl (World.ownsRow_nil _ _ _ _) ⟨b, off, none⟩ k cap ((List.range k).map (fun j => Value.int .u64 (Z j))) rfl (by simp) HC.out HON.out (by unfold maxLen; omega) (by omega) (by simp) ?_); intro v' w1 hown hgrow hiff; obtain ⟨g, cp, hv⟩ := app_shape hown hk1; rw [hv]; obtain ⟨q0, q1, q2, q3, q4⟩ := app_rest hgrow; have Q4 : Hid (Below w.heap.size w w1) := q4; clear hown hgrow hiff hv q4)
        refine bodyPost_ret (v := .tuple #[.agg #[.slice (some ⟨g, 0, none⟩) k cp, .int .u64 x], .nilIface]) (by simp [results, Ybaf.results5, go_sem, q0, q1]) rfl ?_
        refine .inr ⟨by rw [← HX.out]; exact HXl.out, by rw [← HX.out]; omega, g, k, cp, by rw [← HX.out], ?_⟩
        exact (Q4.out.setCell (p := ⟨w.heap.size, 0, none⟩) (Nat.le_refl _) _).setCell (p := ⟨w.heap.size, 1, none⟩) (Nat.le_refl _) _
end Go.Proofs.YbulkbqckFmt.walks
