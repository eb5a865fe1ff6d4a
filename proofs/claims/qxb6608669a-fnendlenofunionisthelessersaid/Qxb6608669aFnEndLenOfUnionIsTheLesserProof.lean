/-
  The proof of 'Rows.FnEndLenOfUnionIsTheLesserSaid': the walk is ours; the row's step is the guide's shell.
-/
import Derived.Test.Qxb6608669aRows
import Derived.WalkKit
import Derived.ProofKit
import Derived.OpenShut
import Derived.ShutString
import Derived.Test.Qxb6608669aPlain
namespace Go.Proofs.Qxb6608669a.fnEndLenOfUnionIsTheLesser
open Go.ChangeShapes Go.WideShapes Go.ChangeAt Go.RowKit
open Go.ChangeMaps (open_string shut_string)
set_option linter.unusedVariables false      -- a walk need not use every 'w<i>' (that an integer argument fits its kind)

theorem own : ownKnob Try.prog.godebug = none := by kernel_rfl

/-! ### zzIsEndLenOf (14) at endLen's own answer: true -/
set_option maxRecDepth 100000 in
theorem isLen_at (a l : Int) (w : World) (h1 : ¬ l < 1) (h2 : ¬ 8 < l) (f : (bits .and .u64 (a / 2 ^ (8 * (l - 1)).toNat) 128 == 0) = false)
    (g : (bits .and .u64 a (IntKind.u64.wrap (IntKind.u64.wrap (2 ^ (8 * (l - 1)).toNat) - 1)) == 0) = true) :
    Calls Try.prog 14 #[.int .u64 a, .int .i64 l] w fun e w' => e = .returned (.bool true) ∧ w = w' := by
  go_enter Try.func14, Try.ntmps14
  go_wp2
  go_ret
  exact ⟨by rfl, rfl⟩

/-- What the two tests of zzIsEndLenOf say at the mask's own length: by the kernel, at all 255 masks. -/
def fits (a l : Int) : Bool :=
  decide (1 ≤ l) && decide (l ≤ 8) && !(bits .and .u64 (a / 2 ^ (8 * (l - 1)).toNat) 128 == 0) && (bits .and .u64 a (IntKind.u64.wrap (IntKind.u64.wrap (2 ^ (8 * (l - 1)).toNat) - 1)) == 0)

theorem fits_spread : ∀ b0 b1 b2 b3 b4 b5 b6 b7 : Bool, (b0 || b1 || b2 || b3 || b4 || b5 || b6 || b7) = true →
    fits ((Ends.spread b0 b1 b2 b3 b4 b5 b6 b7).toNat : Int) (Ends.endLen ((Ends.spread b0 b1 b2 b3 b4 b5 b6 b7).toNat : Int)) = true := by decide +kernel

theorem isLen_any (a : Int) (h0 : 0 ≤ a) (h1 : a < 18446744073709551616) (he : Ends.isEnds a = true) (w : World) :
    Calls Try.prog 14 #[.int .u64 a, .int .i64 (Ends.endLen a)] w fun e w' => e = .returned (.bool true) ∧ w = w' := by
  obtain ⟨b0, b1, b2, b3, b4, b5, b6, b7, hs, hb⟩ := Ends.ends_spread a h0 h1 he
  have hf := fits_spread b0 b1 b2 b3 b4 b5 b6 b7 hb
  rw [← hs] at hf
  unfold fits at hf
  simp only [Bool.and_eq_true, decide_eq_true_eq, Bool.not_eq_true'] at hf
  obtain ⟨⟨⟨f1, f2⟩, f3⟩, f4⟩ := hf
  exact isLen_at a _ w (by omega) (by omega) f3 f4

/-! ### STEP 1: THE WALK: the Go text returns true: where one of the two is no mask, and where both are. -/
theorem walk_a (a0 a1 : Int) (ha : Ends.isEnds a0 = false) (w : World) :
    Calls Try.prog 4 #[.int .u64 a0, .int .u64 a1] w fun e w' => e = .returned (.bool true) ∧ Grown w w' := by
  go_enter Try.func4, Try.ntmps4
  go_wp2_with (go_at_call 12; refine (Ends.isEnds_is _ false ha _).mono ?_; rintro e w' ⟨rfl, rfl⟩)
  go_ret
  exact ⟨by rfl, Grown.refl _⟩

theorem walk_b (a0 a1 : Int) (ha : Ends.isEnds a0 = true) (hb : Ends.isEnds a1 = false) (w : World) :
    Calls Try.prog 4 #[.int .u64 a0, .int .u64 a1] w fun e w' => e = .returned (.bool true) ∧ Grown w w' := by
  go_enter Try.func4, Try.ntmps4
  go_wp2_with fail
  refine (Ends.isEnds_is _ true ha _).mono ?_
  rintro e w' ⟨rfl, rfl⟩
  go_wp2_with fail
  refine (Ends.isEnds_is _ false hb _).mono ?_
  rintro e w' ⟨rfl, rfl⟩
  go_wp2_with fail
  go_ret
  exact ⟨by rfl, Grown.refl _⟩

theorem walk_c (a0 a1 : Int) (h0 : 0 ≤ a0) (h1 : a0 < 18446744073709551616) (k0 : 0 ≤ a1) (k1 : a1 < 18446744073709551616) (ha : Ends.isEnds a0 = true) (hb : Ends.isEnds a1 = true) (w : World) :
    Calls Try.prog 4 #[.int .u64 a0, .int .u64 a1] w fun e w' => e = .returned (.bool true) ∧ Grown w w' := by
  have g : (Ends.endLen (bits .or .u64 a0 a1) == min (Ends.endLen a0) (Ends.endLen a1)) = true := by
    rw [Ends.endLen_or a0 a1 h0 h1 k0 k1 ha hb]; simp
  go_enter Try.func4, Try.ntmps4
  go_wp2_with fail
  refine (Ends.isEnds_is _ true ha _).mono ?_
  rintro e w' ⟨rfl, rfl⟩
  go_wp2_with fail
  refine (Ends.isEnds_is _ true hb _).mono ?_
  rintro e w' ⟨rfl, rfl⟩
  go_wp2_with (go_at_call 13; refine (Ends.endLen_any _ _).mono ?_; rintro e w' ⟨rfl, rfl⟩)
  refine (isLen_any a0 h0 h1 ha _).mono ?_
  rintro e w' ⟨rfl, rfl⟩
  go_wp2_with (go_at_call 10; refine (Ends.minInt_any _ _ _).mono ?_; rintro e w' ⟨rfl, rfl⟩)
  go_ret
  exact ⟨by rfl, Grown.refl _⟩

theorem walk (a0 : Int) (a1 : Int) (w0 : (Lit.int .u64 a0).wf = true) (w1 : (Lit.int .u64 a1).wf = true) (w : World) :
    Calls Try.prog 4 #[.int .u64 a0, .int .u64 a1] w fun e w' => e = .returned (.bool true) ∧ Grown w w' := by
  have hb0 := bounds_u64 w0
  have hb1 := bounds_u64 w1
  cases ha : Ends.isEnds a0
  · exact walk_a a0 a1 ha w
  cases hb : Ends.isEnds a1
  · exact walk_b a0 a1 ha hb w
  exact walk_c a0 a1 (by omega) (by omega) (by omega) (by omega) ha hb w

/-! ### THE ROW's STEP: WRITTEN OUT: LEAVE IT -/
set_option maxRecDepth 100000 in
theorem lifted (os : Os) (started : os.Started) (H : Type) (enc : TypeId × Value → H) :
    ReturnsInHanded {} Try.checked os 4 .any (Rows.fnEndLenOfUnionIsTheLesserSpec.pre6 enc Try.prog Try.f4 Rows.fnEndLenOfUnionIsTheLesserRow.domain false) (Rows.fnEndLenOfUnionIsTheLesserSpec.post enc Try.prog Try.f4 false true false false) := by
  refine returnsInHanded_of_change (C := Try.checked) own started (by kernel_rfl) Try.func4
    (ChangeSpec.witness6 (enc := enc) (C := Try.checked) false ⟨#[], #[.int .u64 0, .int .u64 0], []⟩ 8 (by kernel_rfl) (by kernel_rfl) (by kernel_rfl) (by kernel_rfl)) ?_
  intro W base args ds gs before hval0 hW hcnd _
  have hval : ∀ (j : Nat) t v, Try.f4.params[j]? = some t → args[j]? = some v → Value.okWide Try.prog W .any base t v := hval0
  have hW' := hW
  obtain ⟨p, q, hA0, hV, rfl, hfz, hnd⟩ := hW
  have hA : DataW.TrodAll enc Try.prog W 0 (fun _ => true) true Try.f4.params.toList args.toList ds p := hA0
  rw [Try.params4] at hA hval
  obtain ⟨v0, vs0, d0, ds0, p0, q0, hargs, rfl, rfl, h0, r0⟩ := trodAll_cons hA
  obtain ⟨v1, vs1, d1, ds1, p1, q1, rfl, rfl, rfl, h1, r1⟩ := trodAll_cons r0
  obtain ⟨rfl, rfl, rfl⟩ := trodAll_nil r1
  obtain rfl : args = #[v0, v1] := by cases args; simp_all
  obtain ⟨rfl, rfl⟩ := trodVars_none hV
  obtain ⟨a0, rfl, rfl, rfl, w0⟩ := open_int Try.underlying28 (hval 0 28 v0 rfl rfl) h0
  obtain ⟨a1, rfl, rfl, rfl, w1⟩ := open_int Try.underlying28 (hval 1 28 v1 rfl rfl) h1
  clear hA0 hval0
  simp only [List.append_nil] at hW'
  refine (walk a0 a1 w0 w1 W).mono fun e W' ⟨he, hg⟩ => ?_
  subst he
  exact ⟨_, rfl, post_of_same (pa := []) (pv := []) hW' (fun _ _ _ => (trodAll_cons_mk (shut_bool Try.underlying4 _) trodAll_mk0)) (fun sp _ => (trodAll_cons_mk (shut_int Try.underlying28 w0) (trodAll_cons_mk (shut_int Try.underlying28 w1) trodAll_mk0))) (fun _ _ => rfl) rfl
    (hg.frame _) hg.2.1 (ok_one (by kernel_rfl) rfl (okWide_bool_mk Try.underlying4 _))⟩

theorem over : Rows.fnEndLenOfUnionIsTheLesserRow.holds Try.pinned (OpenSpec.ofChange Rows.fnEndLenOfUnionIsTheLesserSpec) :=
  OpenClaim.holds_of_wide 4 Try.f4 rfl rfl rfl rfl rfl rfl rfl ⟨rfl, rfl, rfl, rfl, rfl⟩ rfl rfl rfl rfl rfl (by kernel_rfl) Try.func4 (by kernel_rfl)
    (of_decide_eq_true (by kernel_rfl)) (by unfold Func.isWrapper; first | (rw [if_pos (by decide +kernel)]; kernel_rfl) | (rw [if_neg (by decide +kernel)]; exact ⟨rfl, rfl⟩))
    (fun os started H enc _ => lifted os started H enc)

/-- ████ THE STATEMENT ████ -/
theorem proved : Rows.FnEndLenOfUnionIsTheLesserSaid :=
  over
#print axioms proved
end Go.Proofs.Qxb6608669a.fnEndLenOfUnionIsTheLesser
