/-
  The walks of the small functions of the 'endLen' laws: zzMinInt (10), zzIsEnds (12), ZZEndLen (13), endLen (16): each returns a plain function of its arguments.
-/
import Derived.Test.Qxb6608669aRows
import Derived.WalkKit
namespace Go.Proofs.Qxb6608669a.Ends
open Go.RowKit

def isEnds (a : Int) : Bool := a != 0 && bits .andNot .u64 a 9259542123273814144 == 0
def endLen (a : Int) : Int :=
  wrap64 (IntKind.u64.wrap (bits .and .u64 (IntKind.u64.wrap (a - 1)) 72340172838076673 * 1157442765409226768) / 1152921504606846976)

theorem minInt_lt (a b : Int) (w : World) (h : a < b) :
    Calls Try.prog 10 #[.int .i64 a, .int .i64 b] w fun e w' => e = .returned (.int .i64 (min a b)) ∧ w = w' := by
  have hm : min a b = a := by omega
  rw [hm]
  clear hm
  go_enter Try.func10, Try.ntmps10
  go_wp2
  go_ret
  exact ⟨rfl, rfl⟩

theorem minInt_ge (a b : Int) (w : World) (h : ¬ a < b) :
    Calls Try.prog 10 #[.int .i64 a, .int .i64 b] w fun e w' => e = .returned (.int .i64 (min a b)) ∧ w = w' := by
  have hm : min a b = b := by omega
  rw [hm]
  clear hm
  go_enter Try.func10, Try.ntmps10
  go_wp2
  go_ret
  exact ⟨rfl, rfl⟩

theorem minInt_any (a b : Int) (w : World) :
    Calls Try.prog 10 #[.int .i64 a, .int .i64 b] w fun e w' => e = .returned (.int .i64 (min a b)) ∧ w = w' := by
  by_cases h : a < b
  · exact minInt_lt a b w h
  · exact minInt_ge a b w h

theorem isEnds_any (a : Int) (w : World) :
    Calls Try.prog 12 #[.int .u64 a] w fun e w' => e = .returned (.bool (isEnds a)) ∧ w = w' := by
  by_cases h : a = 0
  · subst h
    go_enter Try.func12, Try.ntmps12
    go_wp2
    go_ret
    exact ⟨rfl, rfl⟩
  · go_enter Try.func12, Try.ntmps12
    go_wp2
    go_ret
    exact ⟨rfl, rfl⟩

theorem isEnds_is (a : Int) (b : Bool) (h : isEnds a = b) (w : World) :
    Calls Try.prog 12 #[.int .u64 a] w fun e w' => e = .returned (.bool b) ∧ w = w' := by
  rw [← h]; exact isEnds_any a w

theorem endLen_inner (a : Int) (w : World) :
    Calls Try.prog 16 #[.int .u64 a] w fun e w' => e = .returned (.int .i64 (endLen a)) ∧ w = w' := by
  go_enter Try.func16, Try.ntmps16
  go_wp2
  go_ret
  exact ⟨rfl, rfl⟩

theorem endLen_any (a : Int) (w : World) :
    Calls Try.prog 13 #[.int .u64 a] w fun e w' => e = .returned (.int .i64 (endLen a)) ∧ w = w' := by
  go_enter Try.func13, Try.ntmps13
  go_wp2_with (go_at_call 16; refine (endLen_inner _ _).mono ?_; rintro e w' ⟨rfl, rfl⟩)
  go_ret
  exact ⟨rfl, rfl⟩
end Go.Proofs.Qxb6608669a.Ends
