/-
  THE SHELL OF A PROOF OF 'Rows.LawS3329ASmallSaid' ('example.com/zhaomu/zhaomu/decimal.LawS3329ASmall'), WRITTEN BY PROGRAM (proof-skeleton.mjs) off the guide's own print for that function. Not trusted: the kernel checks it.
  The walk (step 1) is filled by hand. ALL ELSE IS THE GUIDE's TEMPLATE (howto/template/XProofs.lean) at this function's number and types: leave it.
-/
import Derived.Test.YbulkbpxoRows
import Derived.WalkKit
import Derived.ProofKit
import Derived.OpenShut
import Derived.ShutString
namespace Go.Proofs.Ybulkbpxo.lawS3329ASmall
open Go.ChangeShapes Go.WideShapes Go.ChangeAt Go.RowKit
open Go.ChangeMaps (open_string shut_string)
set_option linter.unusedVariables false      -- a walk need not use every 'w<i>' (that an integer argument fits its kind)

theorem own : ownKnob Yba.prog.godebug = none := by kernel_rfl

/-! ### STEP 1: THE WALK: the Go text returns true. 'Grown w w'': the world has at most new blocks (Derived/RowKit3.lean). Part the cases AHEAD of 'go_enter' where a test parts the walk; take each callee by a contract of your own. -/
theorem fromInt_small (c s : Int) (hm : (c == -9223372036854775808) = false) (w : World) :
    Calls Yba.prog 5 #[.int .i64 c, .int .i64 s] w fun e w' => e = .returned (.agg #[.int .i64 c, .pointer none, .int .i64 s]) ∧ ∃ cs : Array Value, w' = w.alloc (.cells cs 24) := by
  go_enter Yba.func5, Yba.ntmps5
  go_wp2
  simp [bodyPost, results, Yba.results5, go_sem]
  exact ⟨_, rfl⟩
theorem fromInt_min (s : Int) (w : World) :
    Calls Yba.prog 5 #[.int .i64 (-9223372036854775808), .int .i64 s] w fun e w' => ∃ (c0 c1 : Array Value), e = .returned (.agg #[.int .i64 0, .pointer (some ⟨w.heap.size + 2, 0, none⟩), .int .i64 s]) ∧ w' = ((w.alloc (.cells c0 24)).alloc (.cells c1 40)).alloc (.cells #[.bool true, .slice (some ⟨w.heap.size + 1, 0, none⟩) 1 1] 32) := by
  go_enter Yba.func5, Yba.ntmps5
  go_wp2
  simp [bodyPost, results, Yba.results5, go_sem]
  exact ⟨_, _, rfl⟩
set_option maxHeartbeats 1000000 in
theorem walk (a0 : Int) (a1 : Int) (w0 : (Lit.int .i64 a0).wf = true) (w1 : (Lit.int .u8 a1).wf = true) (w : World) :
    Calls Yba.prog 3 #[.int .i64 a0, .int .u8 a1] w fun e w' => e = .returned (.bool true) ∧ Grown w w' := by
  have b0 := bounds_i64 w0
  have b1 := bounds_u8 w1
  obtain ⟨b00, b01⟩ := b0
  obtain ⟨b10, b11⟩ := b1
  by_cases hm : a0 = -9223372036854775808
  · subst hm
    go_enter Yba.func3, Yba.ntmps3
    go_wp2_with (first | (go_at_call 5; refine (fromInt_min _ _).mono ?_; rintro e w' ⟨c0, c1, rfl, rfl⟩) | go_in)
    go_ret
    exact ⟨rfl, by repeat (first | exact Grown.refl _ | apply Grown.drew | apply Grown.alloc)⟩
  · have hm' : (a0 == -9223372036854775808) = false := by simpa using hm
    rcases Int.lt_trichotomy a0 0 with h | h | h
    · go_enter Yba.func3, Yba.ntmps3
      go_wp2_with (first | (go_at_call 5; refine (fromInt_small _ _ hm' _).mono ?_; rintro e w' ⟨rfl, cs, rfl⟩) | go_in)
      go_ret
      exact ⟨rfl, by repeat (first | exact Grown.refl _ | apply Grown.drew | apply Grown.alloc)⟩
    · subst h
      go_enter Yba.func3, Yba.ntmps3
      go_wp2_with (first | (go_at_call 5; refine (fromInt_small _ _ hm' _).mono ?_; rintro e w' ⟨rfl, cs, rfl⟩) | go_in)
      go_ret
      exact ⟨rfl, by repeat (first | exact Grown.refl _ | apply Grown.drew | apply Grown.alloc)⟩
    · go_enter Yba.func3, Yba.ntmps3
      go_wp2_with (first | (go_at_call 5; refine (fromInt_small _ _ hm' _).mono ?_; rintro e w' ⟨rfl, cs, rfl⟩) | go_in)
      go_ret
      exact ⟨rfl, by repeat (first | exact Grown.refl _ | apply Grown.drew | apply Grown.alloc)⟩

/-! ### THE ROW's STEP: WRITTEN OUT: LEAVE IT -/
set_option maxRecDepth 100000 in
theorem lifted (os : Os) (started : os.Started) (H : Type) (enc : TypeId × Value → H) :
    ReturnsInHanded {} Yba.checked os 3 .any (Rows.lawS3329ASmallSpec.pre6 enc Yba.prog Yba.f3 Rows.lawS3329ASmallRow.domain false) (Rows.lawS3329ASmallSpec.post enc Yba.prog Yba.f3 false true false false) := by
  refine returnsInHanded_of_change (C := Yba.checked) own started (by kernel_rfl) Yba.func3
    (ChangeSpec.witness6 (enc := enc) (C := Yba.checked) false ⟨#[], #[.int .i64 0, .int .u8 0], []⟩ 8 (by kernel_rfl) (by kernel_rfl) (by kernel_rfl) (by kernel_rfl)) ?_
  intro W base args ds gs before hval0 hW hcnd _
  have hval : ∀ (j : Nat) t v, Yba.f3.params[j]? = some t → args[j]? = some v → Value.okWide Yba.prog W .any base t v := hval0
  have hW' := hW
  obtain ⟨p, q, hA0, hV, rfl, hfz, hnd⟩ := hW
  have hA : DataW.TrodAll enc Yba.prog W 0 (fun _ => true) true Yba.f3.params.toList args.toList ds p := hA0
  rw [Yba.params3] at hA hval
  obtain ⟨v0, vs0, d0, ds0, p0, q0, hargs, rfl, rfl, h0, r0⟩ := trodAll_cons hA
  obtain ⟨v1, vs1, d1, ds1, p1, q1, rfl, rfl, rfl, h1, r1⟩ := trodAll_cons r0
  obtain ⟨rfl, rfl, rfl⟩ := trodAll_nil r1
  obtain rfl : args = #[v0, v1] := by cases args; simp_all
  obtain ⟨rfl, rfl⟩ := trodVars_none hV
  obtain ⟨a0, rfl, rfl, rfl, w0⟩ := open_int Yba.underlying2 (hval 0 2 v0 rfl rfl) h0
  obtain ⟨a1, rfl, rfl, rfl, w1⟩ := open_int Yba.underlying5 (hval 1 5 v1 rfl rfl) h1
  clear hA0 hval0
  simp only [List.append_nil] at hW'
  refine (walk a0 a1 w0 w1 W).mono fun e W' ⟨he, hg⟩ => ?_
  subst he
  exact ⟨_, rfl, post_of_same (pa := []) (pv := []) hW' (fun _ _ _ => (trodAll_cons_mk (shut_bool Yba.underlying4 _) trodAll_mk0)) (fun sp _ => (trodAll_cons_mk (shut_int Yba.underlying2 w0) (trodAll_cons_mk (shut_int Yba.underlying5 w1) trodAll_mk0))) (fun _ _ => rfl) rfl
    (hg.frame _) hg.2.1 (ok_one (by kernel_rfl) rfl (okWide_bool_mk Yba.underlying4 _))⟩

theorem over : Rows.lawS3329ASmallRow.holds Yba.pinned (OpenSpec.ofChange Rows.lawS3329ASmallSpec) :=
  OpenClaim.holds_of_wide 3 Yba.f3 rfl rfl rfl rfl rfl rfl rfl ⟨rfl, rfl, rfl, rfl, rfl⟩ rfl rfl rfl rfl rfl (by kernel_rfl) Yba.func3 (by kernel_rfl)
    (of_decide_eq_true (by kernel_rfl)) (by unfold Func.isWrapper; first | (rw [if_pos (by decide +kernel)]; kernel_rfl) | (rw [if_neg (by decide +kernel)]; exact ⟨rfl, rfl⟩))
    (fun os started H enc _ => lifted os started H enc)

/-- ████ THE STATEMENT ████ -/
theorem proved : Rows.LawS3329ASmallSaid :=
  over
end Go.Proofs.Ybulkbpxo.lawS3329ASmall
