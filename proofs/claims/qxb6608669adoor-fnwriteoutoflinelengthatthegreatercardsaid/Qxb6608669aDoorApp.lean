/-
  AppendUint16 (42) and the ways through appendOutOfLine (36), into a row with room.
-/
import Derived.Test.Qxb6608669aDoorNine
namespace Go.Proofs.Qxb6608669aDoor
open Go.RowKit Go.Deep

set_option maxHeartbeats 2000000 in
theorem append16_any (r n c : Nat) (v : Int) (L : Array Value) (w : World) (hr : w.heap[r]? = some (.cells L 5 (0, 0))) (hi : n + 2 ≤ L.size) (hl : 2 ≤ c) :
    Calls Tryd.prog 42 #[.agg #[], .slice (some ⟨r, n, none⟩) 0 c, .int .u16 v] w fun e w' => e = .returned (.slice (some ⟨r, n, none⟩) 2 c) ∧ w'.heap[r]? = some (.cells (putL L n [v % 256, v / 256 % 256]) 5 (0, 0)) ∧ Keep w.heap.size r w w' := by
  obtain ⟨y0, h0⟩ : ∃ y, w.cell? ⟨r, n, none⟩ = some y := ⟨_, by rw [Lib.cell_of_heap hr]; exact Array.getElem?_eq_getElem (by omega)⟩
  have f0 := Lib.frozen_of_heap hr (n)
  obtain ⟨y1, h1⟩ : ∃ y, w.cell? ⟨r, n + 1, none⟩ = some y := ⟨_, by rw [Lib.cell_of_heap hr]; exact Array.getElem?_eq_getElem (by omega)⟩
  have f1 := Lib.frozen_of_heap hr (n + 1)
  have hlt := Lib.lt_of_heap hr
  go_enter Tryd.func42, Tryd.ntmps42
  go_wp2
  go_ret
  have hs : ((w.setCell ⟨r, n, none⟩ (.int .u8 (v % 256))).setCell ⟨r, n + 1, none⟩ (.int .u8 (v / 256 % 256))).heap.size = w.heap.size := by rw [nblk_setCell, nblk_setCell]
  have hk := blk_set (blk_set hr n (.int .u8 (v % 256))) (n + 1) (.int .u8 (v / 256 % 256))
  refine ⟨rfl, ?_, ?_⟩
  · refine (RowKit.Below.heap_alloc _ _ r (Nat.lt_of_lt_of_le hlt (Nat.le_trans (Nat.le_of_eq hs.symm) (Keep.alloc (lo := 0) (b := 0) _ _ (Nat.zero_le _)).size))).trans ?_
    exact (RowKit.Below.heap_alloc _ _ r (by rw [hs]; exact hlt)).trans hk
  · refine ((Keep.setCell w n (.int .u8 (v % 256))).trans (Keep.setCell _ (n + 1) (.int .u8 (v / 256 % 256)))).trans ?_
    refine (Keep.alloc _ _ (by rw [hs]; exact Nat.le_refl _)).trans (Keep.alloc _ _ ?_)
    exact Nat.le_trans (Nat.le_of_eq hs.symm) (Keep.alloc (lo := 0) (b := 0) _ _ (Nat.zero_le _)).size

set_option maxHeartbeats 4000000 in
set_option maxRecDepth 100000 in
theorem out_two (r n c x : Nat) (L : Array Value) (w : World) (hr : w.heap[r]? = some (.cells L 5 (0, 0))) (hi : n + c ≤ L.size) (hc : 10 ≤ c) (h1 : 128 ≤ x) (hx : x < 16384) :
    Calls Tryd.prog 36 #[.slice (some ⟨r, n, none⟩) 0 c, .int .u64 x] w fun e w' => e = .returned (.slice (some ⟨r, n, none⟩) 2 c) ∧
      w'.heap[r]? = some (.cells (putL L n [((x % 128 + 128 : Nat) : Int), ((x / 128 : Nat) : Int)]) 5 (0, 0)) ∧ Keep w.heap.size r w w' := by
  have HR : Hid (w.heap[r]? = some (.cells L 5 (0, 0))) := hr
  clear hr
  have HX := Lib.hid hx
  have d1 : decide ((x : Int) < 128) = false := decide_eq_false (by omega)
  have d2 : decide ((x : Int) < 16384) = true := decide_eq_true (by omega)
  clear h1 hx
  go_enter Tryd.func36, Tryd.ntmps36
  go_wp2_with fail
  go_region_with (first | (go_at_call 43; refine (pairWord_any x _ HX.out).mono ?_; rintro e w' ⟨rfl, rfl⟩) | (go_at_call 42; refine (append16_any r n c _ L _ ?_ (by omega) (by omega)).mono ?_; exact HR.out; rintro e w2 ⟨rfl, hr2, hk2⟩))
  all_goals (
    go_wp2
    go_ret
    have hb := pw_bytes x HX.out
    rw [hb.1, hb.2] at hr2
    exact ⟨rfl, hr2, (Keep.drewN w 1).trans hk2⟩)

set_option maxHeartbeats 4000000 in
set_option maxRecDepth 100000 in
theorem out_quad (r n c x k : Nat) (L L' : Array Value) (w : World) (hr : w.heap[r]? = some (.cells L 5 (0, 0))) (hc : 10 ≤ c) (hcm : c ≤ 9223372036854775807) (h1 : 16384 ≤ x) (hx : x < 268435456) (hk : k ≤ 10)
    (H : ∀ w : World, w.heap[r]? = some (.cells L 5 (0, 0)) → Calls Tryd.prog 44 #[.slice (some ⟨r, n, none⟩) c c, .int .u64 x] w fun e w' => e = .returned (.int .i64 k) ∧ w'.heap[r]? = some (.cells L' 5 (0, 0)) ∧ Keep w.heap.size r w w') :
    Calls Tryd.prog 36 #[.slice (some ⟨r, n, none⟩) 0 c, .int .u64 x] w fun e w' => e = .returned (.slice (some ⟨r, n, none⟩) k c) ∧
      w'.heap[r]? = some (.cells L' 5 (0, 0)) ∧ Keep w.heap.size r w w' := by
  have HR : Hid (w.heap[r]? = some (.cells L 5 (0, 0))) := hr
  clear hr
  have d1 : decide ((x : Int) < 128) = false := decide_eq_false (by omega)
  have d2 : decide ((x : Int) < 16384) = false := decide_eq_false (by omega)
  have d3 : decide ((x : Int) < 268435456) = true := decide_eq_true (by omega)
  have d4 : decide ((4 : Int) ≤ (c : Int)) = true := decide_eq_true (by omega)
  have hkc : k ≤ c := by omega
  clear h1 hx
  go_enter Tryd.func36, Tryd.ntmps36
  go_wp2_with fail
  refine (H _ HR.out).mono ?_
  rintro e w2 ⟨rfl, hr2, hk2⟩
  go_wp2
  go_ret
  exact ⟨rfl, hr2, hk2⟩
set_option maxHeartbeats 4000000 in
set_option maxRecDepth 100000 in
theorem out_big (r n c x k : Nat) (L L' : Array Value) (w : World) (hr : w.heap[r]? = some (.cells L 5 (0, 0))) (hc : 10 ≤ c) (hcm : c ≤ 9223372036854775807) (h1 : 72057594037927936 ≤ x) (hk : k ≤ 10)
    (H : ∀ w : World, w.heap[r]? = some (.cells L 5 (0, 0)) → Calls Tryd.prog 46 #[.slice (some ⟨r, n, none⟩) c c, .int .u64 x] w fun e w' => e = .returned (.int .i64 k) ∧ w'.heap[r]? = some (.cells L' 5 (0, 0)) ∧ Keep w.heap.size r w w') :
    Calls Tryd.prog 36 #[.slice (some ⟨r, n, none⟩) 0 c, .int .u64 x] w fun e w' => e = .returned (.slice (some ⟨r, n, none⟩) k c) ∧
      w'.heap[r]? = some (.cells L' 5 (0, 0)) ∧ Keep w.heap.size r w w' := by
  have HR : Hid (w.heap[r]? = some (.cells L 5 (0, 0))) := hr
  clear hr
  have d1 : decide ((x : Int) < 128) = false := decide_eq_false (by omega)
  have d2 : decide ((x : Int) < 16384) = false := decide_eq_false (by omega)
  have d3 : decide ((x : Int) < 268435456) = false := decide_eq_false (by omega)
  have d4 : decide ((c : Int) < 10) = false := decide_eq_false (by omega)
  have d5 : decide ((72057594037927936 : Int) ≤ (x : Int)) = true := decide_eq_true (by omega)
  have hkc : k ≤ c := by omega
  clear h1
  go_enter Tryd.func36, Tryd.ntmps36
  go_wp2_with fail
  refine (H _ HR.out).mono ?_
  rintro e w2 ⟨rfl, hr2, hk2⟩
  go_wp2
  go_ret
  exact ⟨rfl, hr2, hk2⟩

/-- The first four groups, with their high bits. -/
def first4 (L : Array Value) (n lo : Nat) : Array Value := putL L n [((lo % 128 + 128 : Nat) : Int), ((lo / 128 % 128 + 128 : Nat) : Int), ((lo / 16384 % 128 + 128 : Nat) : Int), ((lo / 2097152 % 128 + 128 : Nat) : Int)]

set_option maxHeartbeats 4000000 in
set_option maxRecDepth 100000 in
theorem out_five (r n c x lo hi : Nat) (L : Array Value) (w : World) (hr : w.heap[r]? = some (.cells L 5 (0, 0))) (hs : n + c ≤ L.size) (hc : 10 ≤ c) (hcm : c ≤ 9223372036854775807) (h1 : 268435456 ≤ x) (hx : x < 34359738368)
    (hlo : lo = x % 268435456) (hhi : hi = x / 268435456) :
    Calls Tryd.prog 36 #[.slice (some ⟨r, n, none⟩) 0 c, .int .u64 x] w fun e w' => e = .returned (.slice (some ⟨r, n, none⟩) 5 c) ∧
      w'.heap[r]? = some (.cells ((first4 L n lo).setIfInBounds (n + 4) (.int .u8 (hi : Int))) 5 (0, 0)) ∧ Keep w.heap.size r w w' := by
  have HR : Hid (w.heap[r]? = some (.cells L 5 (0, 0))) := hr
  clear hr
  have d1 : decide ((x : Int) < 128) = false := decide_eq_false (by omega)
  have d2 : decide ((x : Int) < 16384) = false := decide_eq_false (by omega)
  have d3 : decide ((x : Int) < 268435456) = false := decide_eq_false (by omega)
  have d4 : decide ((c : Int) < 10) = false := decide_eq_false (by omega)
  have d5 : decide ((72057594037927936 : Int) ≤ (x : Int)) = false := decide_eq_false (by omega)
  have hA : bits .and .u64 (x : Int) 268435455 = (lo : Int) := by rw [and64 x 268435455 _ (by omega) (by omega) (by omega), low28, hlo]
  have hS : (x : Int) / 268435456 = (hi : Int) := by omega
  have d6 : decide ((hi : Int) < 128) = true := decide_eq_true (by omega)
  have hm8 : (hi : Int) % 256 = (hi : Int) := by omega
  have HL : Hid (lo < 268435456) := Lib.hid (by omega)
  clear h1 hx hlo hhi
  go_enter Tryd.func36, Tryd.ntmps36
  go_wp2_with fail
  refine (firstQuad_any r n c c lo L _ HR.out (by omega) (by omega) HL.out).mono ?_
  rintro e w2 ⟨rfl, hr2, hk2⟩
  obtain ⟨L1, hL1⟩ : ∃ L1, first4 L n lo = L1 := ⟨_, rfl⟩
  have HS1 : L1.size = L.size := by rw [← hL1]; exact putL_size _ _ _
  have HL1 := Lib.hid hL1
  have hr2' : w2.heap[r]? = some (.cells L1 5 (0, 0)) := hr2.trans (by rw [← hL1]; rfl)
  clear hr2 hL1
  have hr2 := hr2'
  clear hr2'
  obtain ⟨y4, h4⟩ : ∃ y, w2.cell? ⟨r, n + 4, none⟩ = some y := ⟨_, by rw [Lib.cell_of_heap hr2]; exact Array.getElem?_eq_getElem (by omega)⟩
  have f4 := Lib.frozen_of_heap hr2 (n + 4)
  have HR2 := Lib.hid hr2
  clear hr2
  go_wp2_with fail
  go_ret
  rw [HL1.out]
  exact ⟨rfl, blk_set HR2.out _ _, hk2.trans (Keep.setCell _ _ _)⟩

set_option maxHeartbeats 4000000 in
set_option maxRecDepth 100000 in
theorem out_six (r n c x lo hi k : Nat) (L L' : Array Value) (w : World) (hr : w.heap[r]? = some (.cells L 5 (0, 0))) (hs : n + c ≤ L.size) (hc : 10 ≤ c) (hcm : c ≤ 9223372036854775807) (h0 : 34359738368 ≤ x) (hx : x < 4398046511104)
    (hlo : lo = x % 268435456) (hhi : hi = x / 268435456) (hk : k ≤ 6)
    (H : ∀ w : World, w.heap[r]? = some (.cells (first4 L n lo) 5 (0, 0)) → Calls Tryd.prog 48 #[.slice (some ⟨r, n + 4, none⟩) (c - 4) (c - 4), .int .u64 hi] w fun e w' => e = .returned (.int .i64 k) ∧ w'.heap[r]? = some (.cells L' 5 (0, 0)) ∧ Keep w.heap.size r w w') :
    Calls Tryd.prog 36 #[.slice (some ⟨r, n, none⟩) 0 c, .int .u64 x] w fun e w' => e = .returned (.slice (some ⟨r, n, none⟩) (4 + k) c) ∧
      w'.heap[r]? = some (.cells L' 5 (0, 0)) ∧ Keep w.heap.size r w w' := by
  have HR : Hid (w.heap[r]? = some (.cells L 5 (0, 0))) := hr
  clear hr
  have d1 : decide ((x : Int) < 128) = false := decide_eq_false (by omega)
  have d2 : decide ((x : Int) < 16384) = false := decide_eq_false (by omega)
  have d3 : decide ((x : Int) < 268435456) = false := decide_eq_false (by omega)
  have d4 : decide ((c : Int) < 10) = false := decide_eq_false (by omega)
  have d5 : decide ((72057594037927936 : Int) ≤ (x : Int)) = false := decide_eq_false (by omega)
  have hA : bits .and .u64 (x : Int) 268435455 = (lo : Int) := by rw [and64 x 268435455 _ (by omega) (by omega) (by omega), low28, hlo]
  have hS : (x : Int) / 268435456 = (hi : Int) := by omega
  have d6 : decide ((hi : Int) < 128) = false := decide_eq_false (by omega)
  have d7 : decide ((hi : Int) < 16384) = true := decide_eq_true (by omega)
  have hkc : 4 + k ≤ c := by omega
  have hkw : IntKind.i64.wrap (4 + (k : Int)) = ((4 + k : Nat) : Int) := by rw [IntKind.wrap_i64]; omega
  have HL : Hid (lo < 268435456) := Lib.hid (by omega)
  clear h0 hx hlo hhi
  go_enter Tryd.func36, Tryd.ntmps36
  go_wp2_with fail
  refine (firstQuad_any r n c c lo L _ HR.out (by omega) (by omega) HL.out).mono ?_
  rintro e w2 ⟨rfl, hr2, hk2⟩
  have HR2 : Hid (w2.heap[r]? = some (.cells (first4 L n lo) 5 (0, 0))) := hr2
  clear hr2
  go_wp2_with fail
  refine (H _ HR2.out).mono ?_
  rintro e w3 ⟨rfl, hr3, hk3⟩
  go_wp2
  go_ret
  exact ⟨rfl, hr3, hk2.trans (hk3.mono hk2.size)⟩

set_option maxHeartbeats 4000000 in
set_option maxRecDepth 100000 in
theorem out_seven (r n c x lo hi k : Nat) (L L' : Array Value) (w : World) (hr : w.heap[r]? = some (.cells L 5 (0, 0))) (hs : n + c ≤ L.size) (hc : 10 ≤ c) (hcm : c ≤ 9223372036854775807) (h0 : 4398046511104 ≤ x) (hx : x < 72057594037927936)
    (hlo : lo = x % 268435456) (hhi : hi = x / 268435456) (hk : k ≤ 6)
    (H : ∀ w : World, w.heap[r]? = some (.cells (first4 L n lo) 5 (0, 0)) → Calls Tryd.prog 44 #[.slice (some ⟨r, n + 4, none⟩) (c - 4) (c - 4), .int .u64 hi] w fun e w' => e = .returned (.int .i64 k) ∧ w'.heap[r]? = some (.cells L' 5 (0, 0)) ∧ Keep w.heap.size r w w') :
    Calls Tryd.prog 36 #[.slice (some ⟨r, n, none⟩) 0 c, .int .u64 x] w fun e w' => e = .returned (.slice (some ⟨r, n, none⟩) (4 + k) c) ∧
      w'.heap[r]? = some (.cells L' 5 (0, 0)) ∧ Keep w.heap.size r w w' := by
  have HR : Hid (w.heap[r]? = some (.cells L 5 (0, 0))) := hr
  clear hr
  have d1 : decide ((x : Int) < 128) = false := decide_eq_false (by omega)
  have d2 : decide ((x : Int) < 16384) = false := decide_eq_false (by omega)
  have d3 : decide ((x : Int) < 268435456) = false := decide_eq_false (by omega)
  have d4 : decide ((c : Int) < 10) = false := decide_eq_false (by omega)
  have d5 : decide ((72057594037927936 : Int) ≤ (x : Int)) = false := decide_eq_false (by omega)
  have hA : bits .and .u64 (x : Int) 268435455 = (lo : Int) := by rw [and64 x 268435455 _ (by omega) (by omega) (by omega), low28, hlo]
  have hS : (x : Int) / 268435456 = (hi : Int) := by omega
  have d6 : decide ((hi : Int) < 128) = false := decide_eq_false (by omega)
  have d7 : decide ((hi : Int) < 16384) = false := decide_eq_false (by omega)
  have hkc : 4 + k ≤ c := by omega
  have hkw : IntKind.i64.wrap (4 + (k : Int)) = ((4 + k : Nat) : Int) := by rw [IntKind.wrap_i64]; omega
  have HL : Hid (lo < 268435456) := Lib.hid (by omega)
  clear h0 hx hlo hhi
  go_enter Tryd.func36, Tryd.ntmps36
  go_wp2_with fail
  refine (firstQuad_any r n c c lo L _ HR.out (by omega) (by omega) HL.out).mono ?_
  rintro e w2 ⟨rfl, hr2, hk2⟩
  have HR2 : Hid (w2.heap[r]? = some (.cells (first4 L n lo) 5 (0, 0))) := hr2
  clear hr2
  go_wp2_with fail
  refine (H _ HR2.out).mono ?_
  rintro e w3 ⟨rfl, hr3, hk3⟩
  go_wp2
  go_ret
  exact ⟨rfl, hr3, hk2.trans (hk3.mono hk2.size)⟩

end Go.Proofs.Qxb6608669aDoor
