/-
  pairWord (43), spreadQuad (52), spreadGroups (55), putPair (48), putFirstQuad (47), and the bytes that they make.
-/
import Derived.Test.Qxb6608669aDoorLe
import Derived.Test.Qxb6608669aDoorBits
import Derived.WalkLawsBesides
namespace Go.Proofs.Qxb6608669aDoor
open Go.RowKit Go.Deep

theorem ret_k {k : IntKind} {a b : Int} (h : a = b) : Ending.returned (.int k a) = .returned (.int k b) := by rw [h]

/-- The two bytes of a pair, as one word. -/
def pw (x : Nat) : Nat := x % 128 + 128 + 256 * (x / 128)
theorem pw_bytes (x : Nat) (h : x < 16384) : ((pw x : Nat) : Int) % 256 = ((x % 128 + 128 : Nat) : Int) ∧ ((pw x : Nat) : Int) / 256 % 256 = ((x / 128 : Nat) : Int) := by
  unfold pw; omega

theorem or128_pair (a b : Nat) (ha : a < 128) : (256 * b + a) ||| 128 = 256 * b + (a + 128) := by
  have h := or_split 8 a b 128 0 (by omega) (by omega)
  have h128 : a ||| 128 = a + 128 := by
    have : ∀ y : Fin 128, y.val ||| 128 = y.val + 128 := by decide +kernel
    exact this ⟨a, ha⟩
  rw [Nat.or_zero, h128] at h
  simp only [Nat.reducePow, Nat.mul_zero, Nat.zero_add] at h
  exact h
theorem or_pair (a b : Nat) (ha : a < 128) (hb : b < 128) : (256 * b + a) ||| 32896 = 256 * (b + 128) + (a + 128) := by
  have h := or_split 8 a b 128 128 (by omega) (by omega)
  have h128 : ∀ y, y < 128 → y ||| 128 = y + 128 := by
    have : ∀ y : Fin 128, y.val ||| 128 = y.val + 128 := by decide +kernel
    exact fun y hy => this ⟨y, hy⟩
  rw [h128 a ha, h128 b hb] at h
  simp only [Nat.reducePow] at h
  exact h
theorem or_quad (x : Nat) : SQ x ||| 2155905152 = SQ x + 2155905152 := by
  have e : SQ x = 2 ^ 16 * (256 * (x / 2097152 % 128) + x / 16384 % 128) + (256 * (x / 128 % 128) + x % 128) := by unfold SQ; omega
  have em : (2155905152 : Nat) = 2 ^ 16 * 32896 + 32896 := by omega
  rw [em, e, or_split 16 _ _ _ _ (by omega) (by omega), or_pair _ _ (by omega) (by omega), or_pair _ _ (by omega) (by omega)]
  omega
theorem quad_bytes (x : Nat) : bits .or .u32 ((SQ x : Nat) : Int) 2155905152 % 256 = ((x % 128 + 128 : Nat) : Int) ∧ bits .or .u32 ((SQ x : Nat) : Int) 2155905152 / 256 % 256 = ((x / 128 % 128 + 128 : Nat) : Int) ∧
    bits .or .u32 ((SQ x : Nat) : Int) 2155905152 / 65536 % 256 = ((x / 16384 % 128 + 128 : Nat) : Int) ∧ bits .or .u32 ((SQ x : Nat) : Int) 2155905152 / 16777216 % 256 = ((x / 2097152 % 128 + 128 : Nat) : Int) := by
  have h := SQ_lt x
  rw [or32 (SQ x) 2155905152 _ (by omega) (by omega) (by omega), or_quad]
  have e : SQ x = x % 128 + 256 * (x / 128 % 128) + 65536 * (x / 16384 % 128) + 16777216 * (x / 2097152 % 128) := rfl
  have ha : x % 128 < 128 := by omega
  have hb : x / 128 % 128 < 128 := by omega
  have hc : x / 16384 % 128 < 128 := by omega
  have hd : x / 2097152 % 128 < 128 := by omega
  rw [e]
  generalize x % 128 = a at *
  generalize x / 128 % 128 = b at *
  generalize x / 16384 % 128 = c at *
  generalize x / 2097152 % 128 = d at *
  clear e h
  omega

theorem pairWord_any (x : Nat) (w : World) (hx : x < 16384) :
    Calls Tryd.prog 43 #[.int .u64 x] w fun e w' => e = .returned (.int .u16 ((pw x : Nat) : Int)) ∧ w = w' := by
  go_enter Tryd.func43, Tryd.ntmps43
  go_wp2
  go_ret
  exact ⟨ret_k (pairWord_eq x hx), rfl⟩
theorem spreadQuad_any (x : Nat) (w : World) (hx : x < 268435456) :
    Calls Tryd.prog 52 #[.int .u32 x] w fun e w' => e = .returned (.int .u32 ((SQ x : Nat) : Int)) ∧ w = w' := by
  go_enter Tryd.func52, Tryd.ntmps52
  go_wp2
  go_ret
  exact ⟨ret_k (spreadQuad_eq x hx), rfl⟩
theorem spreadGroups_any (x : Nat) (w : World) (hx : x < 18446744073709551616) :
    Calls Tryd.prog 55 #[.int .u64 x] w fun e w' => e = .returned (.int .u64 ((SG x : Nat) : Int)) ∧ w = w' := by
  go_enter Tryd.func55, Tryd.ntmps55
  go_wp2
  go_ret
  exact ⟨ret_k (spreadGroups_eq x hx), rfl⟩

set_option maxHeartbeats 2000000 in
theorem putPair_any (r i len cap x : Nat) (L : Array Value) (w : World) (hr : w.heap[r]? = some (.cells L 5 (0, 0))) (hi : i + 2 ≤ L.size) (hl : 2 ≤ len) (hx : x < 16384) :
    Calls Tryd.prog 48 #[.slice (some ⟨r, i, none⟩) len cap, .int .u64 x] w fun e w' => e = .returned (.int .i64 2) ∧ w'.heap[r]? = some (.cells (putL L i [((x % 128 + 128 : Nat) : Int), ((x / 128 : Nat) : Int)]) 5 (0, 0)) ∧ Keep w.heap.size r w w' := by
  have HR : Hid (w.heap[r]? = some (.cells L 5 (0, 0))) := hr
  clear hr
  go_enter Tryd.func48, Tryd.ntmps48
  go_wp2
  go_region_with (first | (go_at_call 43; refine (pairWord_any x _ hx).mono ?_; rintro e w' ⟨rfl, rfl⟩) | (go_at_call 53; refine (put16_any r i len cap _ L _ ?_ hi hl).mono ?_; exact HR.out; rintro e w2 ⟨rfl, hr2, hk2⟩))
  all_goals (
    go_wp2
    go_ret
    have hb := pw_bytes x hx
    rw [hb.1, hb.2] at hr2
    exact ⟨rfl, hr2, (Keep.drewN w 1).trans hk2⟩)

set_option maxHeartbeats 2000000 in
theorem firstQuad_any (r i len cap x : Nat) (L : Array Value) (w : World) (hr : w.heap[r]? = some (.cells L 5 (0, 0))) (hi : i + 4 ≤ L.size) (hl : 4 ≤ len) (hx : x < 268435456) :
    Calls Tryd.prog 47 #[.slice (some ⟨r, i, none⟩) len cap, .int .u64 x] w fun e w' => e = .returned (.tuple #[]) ∧
      w'.heap[r]? = some (.cells (putL L i [((x % 128 + 128 : Nat) : Int), ((x / 128 % 128 + 128 : Nat) : Int), ((x / 16384 % 128 + 128 : Nat) : Int), ((x / 2097152 % 128 + 128 : Nat) : Int)]) 5 (0, 0)) ∧ Keep w.heap.size r w w' := by
  have HR : Hid (w.heap[r]? = some (.cells L 5 (0, 0))) := hr
  clear hr
  have hwx : IntKind.u32.wrap (x : Int) = x := by rw [IntKind.wrap_u32']; omega
  go_enter Tryd.func47, Tryd.ntmps47
  go_wp2
  go_region_with (first | (go_at_call 52; refine (spreadQuad_any x _ hx).mono ?_; rintro e w' ⟨rfl, rfl⟩) | (go_at_call 56; refine (put32_any r i len cap _ L _ ?_ hi hl).mono ?_; exact HR.out; rintro e w2 ⟨rfl, hr2, hk2⟩))
  all_goals (
    go_wp2
    go_end0
    have hb := quad_bytes x
    rw [hb.1, hb.2.1, hb.2.2.1, hb.2.2.2] at hr2
    exact ⟨rfl, hr2, (Keep.drewN w 1).trans hk2⟩)

theorem arr_at (r i len cap : Nat) (w : World) (h : 4 ≤ len) : (Instr.arrayAt 106 (.slice (some ⟨r, i, none⟩) len cap)).run Tryd.prog w = .ok (.pointer (some ⟨r, i, none⟩)) w := by
  have h' : ¬ len < 4 := by omega
  simp [Instr.arrayAt, run_underlying Tryd.underlying106, h']

/-- What putThreeOrFour writes: the first two bytes, then the last two. -/
theorem three_first (x : Nat) : bits .or .u16 (IntKind.u16.wrap ((SQ x : Nat) : Int)) 32896 % 256 = ((x % 128 + 128 : Nat) : Int) ∧ bits .or .u16 (IntKind.u16.wrap ((SQ x : Nat) : Int)) 32896 / 256 % 256 = ((x / 128 % 128 + 128 : Nat) : Int) := by
  have e : IntKind.u16.wrap ((SQ x : Nat) : Int) = ((256 * (x / 128 % 128) + x % 128 : Nat) : Int) := by
    rw [IntKind.wrap_u16]; unfold SQ; omega
  rw [e, or16 _ 32896 _ (by omega) (by omega) (by omega), or_pair _ _ (by omega) (by omega)]
  omega
theorem three_last (x : Nat) : bits .or .u16 (IntKind.u16.wrap ((SQ x : Nat) / 256 : Int)) 128 % 256 = ((x / 128 % 128 + 128 : Nat) : Int) ∧ bits .or .u16 (IntKind.u16.wrap ((SQ x : Nat) / 256 : Int)) 128 / 256 % 256 = ((x / 16384 % 128 : Nat) : Int) := by
  have e : IntKind.u16.wrap ((SQ x : Nat) / 256 : Int) = ((256 * (x / 16384 % 128) + x / 128 % 128 : Nat) : Int) := by
    rw [IntKind.wrap_u16]; unfold SQ; omega
  rw [e, or16 _ 128 _ (by omega) (by omega) (by omega), or128_pair _ _ (by omega)]
  omega
theorem four_last (x : Nat) : bits .or .u16 (IntKind.u16.wrap ((SQ x : Nat) / 65536 : Int)) 128 % 256 = ((x / 16384 % 128 + 128 : Nat) : Int) ∧ bits .or .u16 (IntKind.u16.wrap ((SQ x : Nat) / 65536 : Int)) 128 / 256 % 256 = ((x / 2097152 % 128 : Nat) : Int) := by
  have e : IntKind.u16.wrap ((SQ x : Nat) / 65536 : Int) = ((256 * (x / 2097152 % 128) + x / 16384 % 128 : Nat) : Int) := by
    rw [IntKind.wrap_u16]; unfold SQ; omega
  rw [e, or16 _ 128 _ (by omega) (by omega) (by omega), or128_pair _ _ (by omega)]
  omega

end Go.Proofs.Qxb6608669aDoor
