/-
  The proof of 'Rows.FnEndLenOneEndPutInSaid': the walk is ours; the row's step is the guide's shell.
-/
import Derived.Test.Qxb6608669aRows
import Derived.WalkKit
import Derived.ProofKit
import Derived.OpenShut
import Derived.ShutString
import Derived.Test.Qxb6608669aPlain
namespace Go.Proofs.Qxb6608669a.fnEndLenOneEndPutIn
open Go.ChangeShapes Go.WideShapes Go.ChangeAt Go.RowKit
open Go.ChangeMaps (open_string shut_string)
set_option linter.unusedVariables false      -- a walk need not use every 'w<i>' (that an integer argument fits its kind)

theorem own : ownKnob Try.prog.godebug = none := by kernel_rfl

/-! ### STEP 1: THE WALK: the Go text returns true: outside 0..7, at a word that is no mask, and at each k. -/
theorem put_in (a0 B K : Int) (h0 : 0 ≤ a0) (h1 : a0 < 18446744073709551616) (he : Ends.isEnds a0 = true) (b0 : 0 ≤ B) (b1 : B < 18446744073709551616)
    (hb : Ends.isEnds B = true) (hl : Ends.endLen B = K) : (Ends.endLen (bits .or .u64 a0 B) == min (Ends.endLen a0) K) = true := by
  rw [Ends.endLen_or a0 B h0 h1 b0 b1 he hb, hl]; simp

set_option maxRecDepth 100000 in
theorem walk_0 (a0 : Int) (h0 : 0 ≤ a0) (h1 : a0 < 18446744073709551616) (he : Ends.isEnds a0 = true) (w : World) :
    Calls Try.prog 5 #[.int .u64 a0, .int .i64 0] w fun e w' => e = .returned (.bool true) ∧ Grown w w' := by
  have f : (Ends.endLen 128 != 1) = false := by decide +kernel
  have g := put_in a0 128 1 h0 h1 he (by decide) (by decide) (by decide +kernel) (by decide +kernel)
  go_enter Try.func5, Try.ntmps5
  go_wp2_with (first | (go_at_call 12; refine (Ends.isEnds_is _ true he _).mono ?_; rintro e w' ⟨rfl, rfl⟩) | (go_at_call 13; refine (Ends.endLen_any _ _).mono ?_; rintro e w' ⟨rfl, rfl⟩) | (go_at_call 10; refine (Ends.minInt_any _ _ _).mono ?_; rintro e w' ⟨rfl, rfl⟩))
  go_ret
  exact ⟨by rfl, Grown.refl _⟩

set_option maxRecDepth 100000 in
theorem walk_1 (a0 : Int) (h0 : 0 ≤ a0) (h1 : a0 < 18446744073709551616) (he : Ends.isEnds a0 = true) (w : World) :
    Calls Try.prog 5 #[.int .u64 a0, .int .i64 1] w fun e w' => e = .returned (.bool true) ∧ Grown w w' := by
  have f : (Ends.endLen 32768 != 2) = false := by decide +kernel
  have g := put_in a0 32768 2 h0 h1 he (by decide) (by decide) (by decide +kernel) (by decide +kernel)
  go_enter Try.func5, Try.ntmps5
  go_wp2_with (first | (go_at_call 12; refine (Ends.isEnds_is _ true he _).mono ?_; rintro e w' ⟨rfl, rfl⟩) | (go_at_call 13; refine (Ends.endLen_any _ _).mono ?_; rintro e w' ⟨rfl, rfl⟩) | (go_at_call 10; refine (Ends.minInt_any _ _ _).mono ?_; rintro e w' ⟨rfl, rfl⟩))
  go_ret
  exact ⟨by rfl, Grown.refl _⟩

set_option maxRecDepth 100000 in
theorem walk_2 (a0 : Int) (h0 : 0 ≤ a0) (h1 : a0 < 18446744073709551616) (he : Ends.isEnds a0 = true) (w : World) :
    Calls Try.prog 5 #[.int .u64 a0, .int .i64 2] w fun e w' => e = .returned (.bool true) ∧ Grown w w' := by
  have f : (Ends.endLen 8388608 != 3) = false := by decide +kernel
  have g := put_in a0 8388608 3 h0 h1 he (by decide) (by decide) (by decide +kernel) (by decide +kernel)
  go_enter Try.func5, Try.ntmps5
  go_wp2_with (first | (go_at_call 12; refine (Ends.isEnds_is _ true he _).mono ?_; rintro e w' ⟨rfl, rfl⟩) | (go_at_call 13; refine (Ends.endLen_any _ _).mono ?_; rintro e w' ⟨rfl, rfl⟩) | (go_at_call 10; refine (Ends.minInt_any _ _ _).mono ?_; rintro e w' ⟨rfl, rfl⟩))
  go_ret
  exact ⟨by rfl, Grown.refl _⟩

set_option maxRecDepth 100000 in
theorem walk_3 (a0 : Int) (h0 : 0 ≤ a0) (h1 : a0 < 18446744073709551616) (he : Ends.isEnds a0 = true) (w : World) :
    Calls Try.prog 5 #[.int .u64 a0, .int .i64 3] w fun e w' => e = .returned (.bool true) ∧ Grown w w' := by
  have f : (Ends.endLen 2147483648 != 4) = false := by decide +kernel
  have g := put_in a0 2147483648 4 h0 h1 he (by decide) (by decide) (by decide +kernel) (by decide +kernel)
  go_enter Try.func5, Try.ntmps5
  go_wp2_with (first | (go_at_call 12; refine (Ends.isEnds_is _ true he _).mono ?_; rintro e w' ⟨rfl, rfl⟩) | (go_at_call 13; refine (Ends.endLen_any _ _).mono ?_; rintro e w' ⟨rfl, rfl⟩) | (go_at_call 10; refine (Ends.minInt_any _ _ _).mono ?_; rintro e w' ⟨rfl, rfl⟩))
  go_ret
  exact ⟨by rfl, Grown.refl _⟩

set_option maxRecDepth 100000 in
theorem walk_4 (a0 : Int) (h0 : 0 ≤ a0) (h1 : a0 < 18446744073709551616) (he : Ends.isEnds a0 = true) (w : World) :
    Calls Try.prog 5 #[.int .u64 a0, .int .i64 4] w fun e w' => e = .returned (.bool true) ∧ Grown w w' := by
  have f : (Ends.endLen 549755813888 != 5) = false := by decide +kernel
  have g := put_in a0 549755813888 5 h0 h1 he (by decide) (by decide) (by decide +kernel) (by decide +kernel)
  go_enter Try.func5, Try.ntmps5
  go_wp2_with (first | (go_at_call 12; refine (Ends.isEnds_is _ true he _).mono ?_; rintro e w' ⟨rfl, rfl⟩) | (go_at_call 13; refine (Ends.endLen_any _ _).mono ?_; rintro e w' ⟨rfl, rfl⟩) | (go_at_call 10; refine (Ends.minInt_any _ _ _).mono ?_; rintro e w' ⟨rfl, rfl⟩))
  go_ret
  exact ⟨by rfl, Grown.refl _⟩

set_option maxRecDepth 100000 in
theorem walk_5 (a0 : Int) (h0 : 0 ≤ a0) (h1 : a0 < 18446744073709551616) (he : Ends.isEnds a0 = true) (w : World) :
    Calls Try.prog 5 #[.int .u64 a0, .int .i64 5] w fun e w' => e = .returned (.bool true) ∧ Grown w w' := by
  have f : (Ends.endLen 140737488355328 != 6) = false := by decide +kernel
  have g := put_in a0 140737488355328 6 h0 h1 he (by decide) (by decide) (by decide +kernel) (by decide +kernel)
  go_enter Try.func5, Try.ntmps5
  go_wp2_with (first | (go_at_call 12; refine (Ends.isEnds_is _ true he _).mono ?_; rintro e w' ⟨rfl, rfl⟩) | (go_at_call 13; refine (Ends.endLen_any _ _).mono ?_; rintro e w' ⟨rfl, rfl⟩) | (go_at_call 10; refine (Ends.minInt_any _ _ _).mono ?_; rintro e w' ⟨rfl, rfl⟩))
  go_ret
  exact ⟨by rfl, Grown.refl _⟩

set_option maxRecDepth 100000 in
theorem walk_6 (a0 : Int) (h0 : 0 ≤ a0) (h1 : a0 < 18446744073709551616) (he : Ends.isEnds a0 = true) (w : World) :
    Calls Try.prog 5 #[.int .u64 a0, .int .i64 6] w fun e w' => e = .returned (.bool true) ∧ Grown w w' := by
  have f : (Ends.endLen 36028797018963968 != 7) = false := by decide +kernel
  have g := put_in a0 36028797018963968 7 h0 h1 he (by decide) (by decide) (by decide +kernel) (by decide +kernel)
  go_enter Try.func5, Try.ntmps5
  go_wp2_with (first | (go_at_call 12; refine (Ends.isEnds_is _ true he _).mono ?_; rintro e w' ⟨rfl, rfl⟩) | (go_at_call 13; refine (Ends.endLen_any _ _).mono ?_; rintro e w' ⟨rfl, rfl⟩) | (go_at_call 10; refine (Ends.minInt_any _ _ _).mono ?_; rintro e w' ⟨rfl, rfl⟩))
  go_ret
  exact ⟨by rfl, Grown.refl _⟩

set_option maxRecDepth 100000 in
theorem walk_7 (a0 : Int) (h0 : 0 ≤ a0) (h1 : a0 < 18446744073709551616) (he : Ends.isEnds a0 = true) (w : World) :
    Calls Try.prog 5 #[.int .u64 a0, .int .i64 7] w fun e w' => e = .returned (.bool true) ∧ Grown w w' := by
  have f : (Ends.endLen 9223372036854775808 != 8) = false := by decide +kernel
  have g := put_in a0 9223372036854775808 8 h0 h1 he (by decide) (by decide) (by decide +kernel) (by decide +kernel)
  go_enter Try.func5, Try.ntmps5
  go_wp2_with (first | (go_at_call 12; refine (Ends.isEnds_is _ true he _).mono ?_; rintro e w' ⟨rfl, rfl⟩) | (go_at_call 13; refine (Ends.endLen_any _ _).mono ?_; rintro e w' ⟨rfl, rfl⟩) | (go_at_call 10; refine (Ends.minInt_any _ _ _).mono ?_; rintro e w' ⟨rfl, rfl⟩))
  go_ret
  exact ⟨by rfl, Grown.refl _⟩

theorem walk_lo (a0 a1 : Int) (h : a1 < 0) (w : World) :
    Calls Try.prog 5 #[.int .u64 a0, .int .i64 a1] w fun e w' => e = .returned (.bool true) ∧ Grown w w' := by
  go_enter Try.func5, Try.ntmps5
  go_wp2_with fail
  go_ret
  exact ⟨by rfl, Grown.refl _⟩

theorem walk_hi (a0 a1 : Int) (h : 7 < a1) (w : World) :
    Calls Try.prog 5 #[.int .u64 a0, .int .i64 a1] w fun e w' => e = .returned (.bool true) ∧ Grown w w' := by
  have h' : ¬ a1 < 0 := by omega
  go_enter Try.func5, Try.ntmps5
  go_wp2_with fail
  go_ret
  exact ⟨by rfl, Grown.refl _⟩

theorem walk_no (a0 a1 : Int) (h : ¬ a1 < 0) (h' : ¬ 7 < a1) (he : Ends.isEnds a0 = false) (w : World) :
    Calls Try.prog 5 #[.int .u64 a0, .int .i64 a1] w fun e w' => e = .returned (.bool true) ∧ Grown w w' := by
  go_enter Try.func5, Try.ntmps5
  go_wp2_with (go_at_call 12; refine (Ends.isEnds_is _ false he _).mono ?_; rintro e w' ⟨rfl, rfl⟩)
  go_ret
  exact ⟨by rfl, Grown.refl _⟩

theorem walk (a0 : Int) (a1 : Int) (w0 : (Lit.int .u64 a0).wf = true) (w1 : (Lit.int .i64 a1).wf = true) (w : World) :
    Calls Try.prog 5 #[.int .u64 a0, .int .i64 a1] w fun e w' => e = .returned (.bool true) ∧ Grown w w' := by
  by_cases hlo : a1 < 0
  · exact walk_lo a0 a1 hlo w
  by_cases hhi : 7 < a1
  · exact walk_hi a0 a1 hhi w
  cases he : Ends.isEnds a0
  · exact walk_no a0 a1 hlo hhi he w
  have hb := bounds_u64 w0
  have hk8 : a1 = 0 ∨ a1 = 1 ∨ a1 = 2 ∨ a1 = 3 ∨ a1 = 4 ∨ a1 = 5 ∨ a1 = 6 ∨ a1 = 7 := by omega
  have h0 : 0 ≤ a0 := by omega
  have h1 : a0 < 18446744073709551616 := by omega
  rcases hk8 with rfl | rfl | rfl | rfl | rfl | rfl | rfl | rfl
  · exact walk_0 a0 h0 h1 he w
  · exact walk_1 a0 h0 h1 he w
  · exact walk_2 a0 h0 h1 he w
  · exact walk_3 a0 h0 h1 he w
  · exact walk_4 a0 h0 h1 he w
  · exact walk_5 a0 h0 h1 he w
  · exact walk_6 a0 h0 h1 he w
  · exact walk_7 a0 h0 h1 he w

/-! ### THE ROW's STEP: WRITTEN OUT: LEAVE IT -/
set_option maxRecDepth 100000 in
theorem lifted (os : Os) (started : os.Started) (H : Type) (enc : TypeId × Value → H) :
    ReturnsInHanded {} Try.checked os 5 .any (Rows.fnEndLenOneEndPutInSpec.pre6 enc Try.prog Try.f5 Rows.fnEndLenOneEndPutInRow.domain false) (Rows.fnEndLenOneEndPutInSpec.post enc Try.prog Try.f5 false true false false) := by
  refine returnsInHanded_of_change (C := Try.checked) own started (by kernel_rfl) Try.func5
    (ChangeSpec.witness6 (enc := enc) (C := Try.checked) false ⟨#[], #[.int .u64 0, .int .i64 0], []⟩ 8 (by kernel_rfl) (by kernel_rfl) (by kernel_rfl) (by kernel_rfl)) ?_
  intro W base args ds gs before hval0 hW hcnd _
  have hval : ∀ (j : Nat) t v, Try.f5.params[j]? = some t → args[j]? = some v → Value.okWide Try.prog W .any base t v := hval0
  have hW' := hW
  obtain ⟨p, q, hA0, hV, rfl, hfz, hnd⟩ := hW
  have hA : DataW.TrodAll enc Try.prog W 0 (fun _ => true) true Try.f5.params.toList args.toList ds p := hA0
  rw [Try.params5] at hA hval
  obtain ⟨v0, vs0, d0, ds0, p0, q0, hargs, rfl, rfl, h0, r0⟩ := trodAll_cons hA
  obtain ⟨v1, vs1, d1, ds1, p1, q1, rfl, rfl, rfl, h1, r1⟩ := trodAll_cons r0
  obtain ⟨rfl, rfl, rfl⟩ := trodAll_nil r1
  obtain rfl : args = #[v0, v1] := by cases args; simp_all
  obtain ⟨rfl, rfl⟩ := trodVars_none hV
  obtain ⟨a0, rfl, rfl, rfl, w0⟩ := open_int Try.underlying28 (hval 0 28 v0 rfl rfl) h0
  obtain ⟨a1, rfl, rfl, rfl, w1⟩ := open_int Try.underlying3 (hval 1 3 v1 rfl rfl) h1
  clear hA0 hval0
  simp only [List.append_nil] at hW'
  refine (walk a0 a1 w0 w1 W).mono fun e W' ⟨he, hg⟩ => ?_
  subst he
  exact ⟨_, rfl, post_of_same (pa := []) (pv := []) hW' (fun _ _ _ => (trodAll_cons_mk (shut_bool Try.underlying4 _) trodAll_mk0)) (fun sp _ => (trodAll_cons_mk (shut_int Try.underlying28 w0) (trodAll_cons_mk (shut_int Try.underlying3 w1) trodAll_mk0))) (fun _ _ => rfl) rfl
    (hg.frame _) hg.2.1 (ok_one (by kernel_rfl) rfl (okWide_bool_mk Try.underlying4 _))⟩

theorem over : Rows.fnEndLenOneEndPutInRow.holds Try.pinned (OpenSpec.ofChange Rows.fnEndLenOneEndPutInSpec) :=
  OpenClaim.holds_of_wide 5 Try.f5 rfl rfl rfl rfl rfl rfl rfl ⟨rfl, rfl, rfl, rfl, rfl⟩ rfl rfl rfl rfl rfl (by kernel_rfl) Try.func5 (by kernel_rfl)
    (of_decide_eq_true (by kernel_rfl)) (by unfold Func.isWrapper; first | (rw [if_pos (by decide +kernel)]; kernel_rfl) | (rw [if_neg (by decide +kernel)]; exact ⟨rfl, rfl⟩))
    (fun os started H enc _ => lifted os started H enc)

/-- ████ THE STATEMENT ████ -/
theorem proved : Rows.FnEndLenOneEndPutInSaid :=
  over
#print axioms proved
end Go.Proofs.Qxb6608669a.fnEndLenOneEndPutIn
