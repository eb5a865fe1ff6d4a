/-
  putThreeOrFour (44): three or four bytes of a varint laid by 16-bit and 32-bit stores.
-/
import Derived.Test.Qxb6608669aDoorQuad
namespace Go.Proofs.Qxb6608669aDoor
open Go.RowKit Go.Deep

theorem putL_size : ∀ (bs : List Int) (L : Array Value) (i : Nat), (putL L i bs).size = L.size
  | [], L, i => rfl
  | b :: bs, L, i => by rw [putL, putL_size bs]; simp

/-- The same in lists: the window M behind P. -/
theorem putL_list : ∀ (bs : List Int) (P M : List Value) (i : Nat), P.length = i → bs.length ≤ M.length →
    putL (P ++ M).toArray i bs = (P ++ (bs.map (Value.int .u8) ++ M.drop bs.length)).toArray
  | [], P, M, i, _, _ => by simp [putL]
  | b :: bs, P, [], i, _, h => by simp at h
  | b :: bs, P, m :: M, i, hi, h => by
    have hs : (P ++ m :: M).toArray.setIfInBounds i (Value.int .u8 b) = ((P ++ [Value.int .u8 b]) ++ M).toArray := by
      apply Array.toList_inj.1
      simp only [Array.toList_setIfInBounds]
      rw [List.set_append_right _ _ (by omega), hi, Nat.sub_self]
      simp
    rw [putL, hs, putL_list bs (P ++ [Value.int .u8 b]) M (i + 1) (by simp; omega) (by simpa using h)]
    simp

set_option maxHeartbeats 4000000 in
set_option maxRecDepth 100000 in
theorem three_any (r i len cap x : Nat) (L : Array Value) (w : World) (hr : w.heap[r]? = some (.cells L 5 (0, 0))) (hi : i + 4 ≤ L.size) (hl : 4 ≤ len) (hx : x < 2097152) :
    Calls Tryd.prog 44 #[.slice (some ⟨r, i, none⟩) len cap, .int .u64 x] w fun e w' => e = .returned (.int .i64 3) ∧
      w'.heap[r]? = some (.cells (putL (putL L i [((x % 128 + 128 : Nat) : Int), ((x / 128 % 128 + 128 : Nat) : Int)]) (i + 1) [((x / 128 % 128 + 128 : Nat) : Int), ((x / 16384 % 128 : Nat) : Int)]) 5 (0, 0)) ∧ Keep w.heap.size r w w' := by
  have HR : Hid (w.heap[r]? = some (.cells L 5 (0, 0))) := hr
  clear hr
  have hd : decide ((2097152 : Int) ≤ (x : Int)) = false := decide_eq_false (by omega)
  have hq : x < 268435456 := by omega
  clear hx
  have har := fun w => arr_at r i len cap w hl
  have hw1 : IntKind.i64.wrap 1 = 1 := by rw [IntKind.wrap_i64]; omega
  go_enter Tryd.func44, Tryd.ntmps44
  go_wp2_with fail
  refine (spreadQuad_any x _ hq).mono ?_
  rintro e w' ⟨rfl, rfl⟩
  clear hq
  go_wp2_with fail
  go_region_with (go_at_call 53; refine (put16_any r i 4 4 _ L _ ?_ (by omega) (by omega)).mono ?_; exact HR.out; rintro e w2 ⟨rfl, hr2, hk2⟩)
  have hb := three_first x
  rw [hb.1, hb.2] at hr2
  clear hb
  obtain ⟨L1, hL1⟩ : ∃ L1, putL L i [((x % 128 + 128 : Nat) : Int), ((x / 128 % 128 + 128 : Nat) : Int)] = L1 := ⟨_, rfl⟩
  have hs1 : i + 4 ≤ L1.size := by rw [← hL1, putL_size]; exact hi
  rw [hL1] at hr2
  have HL1 := Lib.hid hL1
  clear hL1
  have HR2 := Lib.hid hr2
  have HK2 := Lib.hid ((Keep.drewN w 1).trans hk2)
  clear hr2 hk2
  go_wp2_with fail
  go_region_with (go_at_call 53; refine (put16_any r (i + 1) 3 3 _ L1 _ ?_ (by omega) (by omega)).mono ?_; exact HR2.out; rintro e w3 ⟨rfl, hr3, hk3⟩)
  go_wp2
  go_ret
  have hb := three_last x
  rw [hb.1, hb.2, ← HL1.out] at hr3
  exact ⟨rfl, hr3, (HK2.out.trans ((Keep.drewN w2 1).trans (hk3.mono HK2.out.size)))⟩

set_option maxHeartbeats 4000000 in
set_option maxRecDepth 100000 in
theorem four_any (r i len cap x : Nat) (L : Array Value) (w : World) (hr : w.heap[r]? = some (.cells L 5 (0, 0))) (hi : i + 4 ≤ L.size) (hl : 4 ≤ len) (hx : 2097152 ≤ x) (hx2 : x < 268435456) :
    Calls Tryd.prog 44 #[.slice (some ⟨r, i, none⟩) len cap, .int .u64 x] w fun e w' => e = .returned (.int .i64 4) ∧
      w'.heap[r]? = some (.cells (putL (putL L i [((x % 128 + 128 : Nat) : Int), ((x / 128 % 128 + 128 : Nat) : Int)]) (i + 2) [((x / 16384 % 128 + 128 : Nat) : Int), ((x / 2097152 % 128 : Nat) : Int)]) 5 (0, 0)) ∧ Keep w.heap.size r w w' := by
  have HR : Hid (w.heap[r]? = some (.cells L 5 (0, 0))) := hr
  clear hr
  have hd : decide ((2097152 : Int) ≤ (x : Int)) = true := decide_eq_true (by omega)
  have HQ := Lib.hid hx2
  have hwx : (x : Int) % 4294967296 = x := by omega
  clear hx hx2
  have har := fun w => arr_at r i len cap w hl
  have hw1 : IntKind.i64.wrap 2 = 2 := by rw [IntKind.wrap_i64]; omega
  go_enter Tryd.func44, Tryd.ntmps44
  go_wp2_with fail
  refine (spreadQuad_any x _ HQ.out).mono ?_
  rintro e w' ⟨rfl, rfl⟩
  go_wp2_with fail
  go_region_with (go_at_call 53; refine (put16_any r i 4 4 _ L _ ?_ (by omega) (by omega)).mono ?_; exact HR.out; rintro e w2 ⟨rfl, hr2, hk2⟩)
  have hb := three_first x
  rw [hb.1, hb.2] at hr2
  clear hb
  obtain ⟨L1, hL1⟩ : ∃ L1, putL L i [((x % 128 + 128 : Nat) : Int), ((x / 128 % 128 + 128 : Nat) : Int)] = L1 := ⟨_, rfl⟩
  have hs1 : i + 4 ≤ L1.size := by rw [← hL1, putL_size]; exact hi
  rw [hL1] at hr2
  have HL1 := Lib.hid hL1
  clear hL1
  have HR2 := Lib.hid hr2
  have HK2 := Lib.hid ((Keep.drewN w 1).trans hk2)
  clear hr2 hk2
  go_wp2_with fail
  go_region_with (go_at_call 53; refine (put16_any r (i + 2) 2 2 _ L1 _ ?_ (by omega) (by omega)).mono ?_; exact HR2.out; rintro e w3 ⟨rfl, hr3, hk3⟩)
  go_wp2
  go_ret
  have hb := four_last x
  rw [hb.1, hb.2, ← HL1.out] at hr3
  exact ⟨rfl, hr3, (HK2.out.trans ((Keep.drewN w2 1).trans (hk3.mono HK2.out.size)))⟩
end Go.Proofs.Qxb6608669aDoor
