/-
  putNineOrTen (46): nine or ten bytes of a varint.
-/
import Derived.Test.Qxb6608669aDoorThree
namespace Go.Proofs.Qxb6608669aDoor
open Go.RowKit Go.Deep

theorem quad_nat (x : Nat) : (SQ x + 2155905152) % 256 = x % 128 + 128 ∧ (SQ x + 2155905152) / 256 % 256 = x / 128 % 128 + 128 ∧ (SQ x + 2155905152) / 65536 % 256 = x / 16384 % 128 + 128 ∧ (SQ x + 2155905152) / 16777216 % 256 = x / 2097152 % 128 + 128 := by
  have h := quad_bytes x
  have hl := SQ_lt x
  rw [or32 (SQ x) 2155905152 _ (by omega) (by omega) (by omega), or_quad] at h
  omega
theorem SQ_le (x : Nat) : SQ x ≤ 2139062143 := by unfold SQ; omega
theorem or_groups (x : Nat) : SG x ||| 9259542123273814144 = 4294967296 * (SQ (x / 268435456 % 268435456) + 2155905152) + (SQ (x % 268435456) + 2155905152) := by
  have e : SG x = 2 ^ 32 * SQ (x / 268435456 % 268435456) + SQ (x % 268435456) := rfl
  have em : (9259542123273814144 : Nat) = 2 ^ 32 * 2155905152 + 2155905152 := by omega
  have h1 := SQ_lt (x % 268435456)
  rw [em, e, or_split 32 _ _ _ _ (by omega) (by omega), or_quad, or_quad]
theorem high_low (H L : Nat) : (4294967296 * H + L) % 256 = L % 256 ∧ (4294967296 * H + L) / 256 % 256 = L / 256 % 256 ∧ (4294967296 * H + L) / 65536 % 256 = L / 65536 % 256 ∧ (4294967296 * H + L) / 16777216 % 256 = L / 16777216 % 256 := by omega
theorem high_high (H L : Nat) (hL : L < 4294967296) : (4294967296 * H + L) / 4294967296 % 256 = H % 256 ∧ (4294967296 * H + L) / 1099511627776 % 256 = H / 256 % 256 ∧ (4294967296 * H + L) / 281474976710656 % 256 = H / 65536 % 256 ∧ (4294967296 * H + L) / 72057594037927936 % 256 = H / 16777216 % 256 := by omega
theorem grp (x : Nat) : x % 268435456 % 128 = x % 128 ∧ x % 268435456 / 128 % 128 = x / 128 % 128 ∧ x % 268435456 / 16384 % 128 = x / 16384 % 128 ∧ x % 268435456 / 2097152 % 128 = x / 2097152 % 128 := by omega
theorem grp2 (x : Nat) : x / 268435456 % 268435456 % 128 = x / 268435456 % 128 ∧ x / 268435456 % 268435456 / 128 % 128 = x / 34359738368 % 128 ∧ x / 268435456 % 268435456 / 16384 % 128 = x / 4398046511104 % 128 ∧ x / 268435456 % 268435456 / 2097152 % 128 = x / 562949953421312 % 128 := by omega

/-- The eight groups of x with their high bits. -/
def octet (x : Nat) : List Int := [((x % 128 + 128 : Nat) : Int), ((x / 128 % 128 + 128 : Nat) : Int), ((x / 16384 % 128 + 128 : Nat) : Int), ((x / 2097152 % 128 + 128 : Nat) : Int),
  ((x / 268435456 % 128 + 128 : Nat) : Int), ((x / 34359738368 % 128 + 128 : Nat) : Int), ((x / 4398046511104 % 128 + 128 : Nat) : Int), ((x / 562949953421312 % 128 + 128 : Nat) : Int)]
theorem cast_bytes (n : Nat) : ([(n : Int) % 256, (n : Int) / 256 % 256, (n : Int) / 65536 % 256, (n : Int) / 16777216 % 256, (n : Int) / 4294967296 % 256, (n : Int) / 1099511627776 % 256, (n : Int) / 281474976710656 % 256, (n : Int) / 72057594037927936 % 256] : List Int) =
    [((n % 256 : Nat) : Int), ((n / 256 % 256 : Nat) : Int), ((n / 65536 % 256 : Nat) : Int), ((n / 16777216 % 256 : Nat) : Int), ((n / 4294967296 % 256 : Nat) : Int), ((n / 1099511627776 % 256 : Nat) : Int), ((n / 281474976710656 % 256 : Nat) : Int), ((n / 72057594037927936 % 256 : Nat) : Int)] := rfl
theorem oct_bytes (x : Nat) : [bits .or .u64 ((SG x : Nat) : Int) 9259542123273814144 % 256, bits .or .u64 ((SG x : Nat) : Int) 9259542123273814144 / 256 % 256, bits .or .u64 ((SG x : Nat) : Int) 9259542123273814144 / 65536 % 256, bits .or .u64 ((SG x : Nat) : Int) 9259542123273814144 / 16777216 % 256,
    bits .or .u64 ((SG x : Nat) : Int) 9259542123273814144 / 4294967296 % 256, bits .or .u64 ((SG x : Nat) : Int) 9259542123273814144 / 1099511627776 % 256, bits .or .u64 ((SG x : Nat) : Int) 9259542123273814144 / 281474976710656 % 256, bits .or .u64 ((SG x : Nat) : Int) 9259542123273814144 / 72057594037927936 % 256] = octet x := by
  have h1 := SQ_le (x % 268435456)
  have h2 := SQ_le (x / 268435456 % 268435456)
  have hG : SG x < 18446744073709551616 := by
    have e : SG x = 4294967296 * SQ (x / 268435456 % 268435456) + SQ (x % 268435456) := rfl
    omega
  have hb : bits .or .u64 ((SG x : Nat) : Int) 9259542123273814144 = ((4294967296 * (SQ (x / 268435456 % 268435456) + 2155905152) + (SQ (x % 268435456) + 2155905152) : Nat) : Int) := by
    rw [or64 (SG x) 9259542123273814144 _ (by omega) hG (by omega), or_groups]
  rw [hb, cast_bytes]
  have a := high_low (SQ (x / 268435456 % 268435456) + 2155905152) (SQ (x % 268435456) + 2155905152)
  have b := high_high (SQ (x / 268435456 % 268435456) + 2155905152) (SQ (x % 268435456) + 2155905152) (by omega)
  rw [a.1, a.2.1, a.2.2.1, a.2.2.2, b.1, b.2.1, b.2.2.1, b.2.2.2]
  have c := quad_nat (x % 268435456)
  have d := quad_nat (x / 268435456 % 268435456)
  rw [c.1, c.2.1, c.2.2.1, c.2.2.2, d.1, d.2.1, d.2.2.1, d.2.2.2]
  have e := grp x
  have f := grp2 x
  rw [e.1, e.2.1, e.2.2.1, e.2.2.2, f.1, f.2.1, f.2.2.1, f.2.2.2]
  rfl

theorem putL_append : ∀ (cs bs : List Int) (L : Array Value) (i : Nat), putL L i (cs ++ bs) = putL (putL L i cs) (i + cs.length) bs
  | [], bs, L, i => rfl
  | a :: cs, bs, L, i => by
    rw [List.cons_append, putL, putL, putL_append cs bs]
    congr 1
    simp only [List.length_cons]
    omega
theorem ninth_bits (q : Nat) (h : q < 256) : bits .or .u8 (bits .andNot .u8 (q : Int) 0) 0 = (q : Int) := by
  have : ∀ y : Fin 256, bits .or .u8 (bits .andNot .u8 ((y.val : Nat) : Int) 0) 0 = ((y.val : Nat) : Int) := by decide +kernel
  exact this ⟨q, h⟩
theorem tenth_bits (q : Nat) (h : q < 256) : bits .or .u8 (bits .andNot .u8 (q : Int) 255) 1 = 1 := by
  have : ∀ y : Fin 256, bits .or .u8 (bits .andNot .u8 ((y.val : Nat) : Int) 255) 1 = 1 := by decide +kernel
  exact this ⟨q, h⟩

set_option maxHeartbeats 4000000 in
set_option maxRecDepth 100000 in
theorem nine_any (r i len cap x : Nat) (L : Array Value) (w : World) (hr : w.heap[r]? = some (.cells L 5 (0, 0))) (hi : i + 10 ≤ L.size) (hl : 10 ≤ len) (hx : x < 9223372036854775808) :
    Calls Tryd.prog 46 #[.slice (some ⟨r, i, none⟩) len cap, .int .u64 x] w fun e w' => e = .returned (.int .i64 9) ∧
      w'.heap[r]? = some (.cells (putL L i (octet x ++ [((x / 72057594037927936 : Nat) : Int)])) 5 (0, 0)) ∧ Keep w.heap.size r w w' := by
  have HR : Hid (w.heap[r]? = some (.cells L 5 (0, 0))) := hr
  clear hr
  have HX := Lib.hid hx
  clear hx
  go_enter Tryd.func46, Tryd.ntmps46
  go_wp2_with fail
  go_region_with (first | (go_at_call 55; refine (spreadGroups_any x _ (by have := HX.out; omega)).mono ?_; rintro e w' ⟨rfl, rfl⟩) | (go_at_call 54; refine (put64_any r i len cap _ L _ ?_ (by omega) (by omega)).mono ?_; exact HR.out; rintro e w2 ⟨rfl, hr2, hk2⟩))
  all_goals (
    rw [oct_bytes] at hr2
    obtain ⟨L1, hL1⟩ : ∃ L1, putL L i (octet x) = L1 := ⟨_, rfl⟩
    have hs1 : i + 10 ≤ L1.size := by rw [← hL1, putL_size]; exact hi
    rw [hL1] at hr2
    have HL1 := Lib.hid hL1
    clear hL1
    obtain ⟨y8, h8⟩ : ∃ y, w2.cell? ⟨r, i + 8, none⟩ = some y := ⟨_, by rw [Lib.cell_of_heap hr2]; exact Array.getElem?_eq_getElem (by omega)⟩
    have f8 := Lib.frozen_of_heap hr2 (i + 8)
    have hlt := Lib.lt_of_heap hr2
    have HR2 := Lib.hid hr2
    have HK2 := Lib.hid ((Keep.drewN w 1).trans hk2)
    clear hr2 hk2
    obtain ⟨q, hq⟩ : ∃ q, x / 72057594037927936 = q := ⟨_, rfl⟩
    have hq2 : q < 256 := by have := HX.out; omega
    have hn : (x : Int) / 72057594037927936 % 256 = (q : Int) := by omega
    have hm : (x : Int) / 9223372036854775808 = 0 := by have := HX.out; omega
    have hn2 : (x : Int) / 72057594037927936 = (q : Int) := by omega
    rw [hm, hn, hn2]
    have HQ := Lib.hid hq
    clear hq hn hm hn2
    generalize bits BinOp.or IntKind.u64 (SG x : Int) 9259542123273814144 = zz
    go_wp2_with fail)
  all_goals (
    go_ret
    rw [ninth_bits q hq2]
    refine ⟨rfl, ?_, ?_⟩
    · have hk := blk_set (blk_set HR2.out (i + 8) (.int .u8 (q : Int))) (i + 8) (.int .u8 (q : Int))
      rw [putL_append, HL1.out, HQ.out]
      refine hk.trans ?_
      show _ = some (Obj.cells (L1.setIfInBounds (i + 8) (.int .u8 (q : Int))) 5 (0, 0))
      rw [Array.setIfInBounds_setIfInBounds]
    · exact HK2.out.trans ((Keep.setCell _ _ _).trans (Keep.setCell _ _ _)))

set_option maxHeartbeats 4000000 in
set_option maxRecDepth 100000 in
theorem ten_any (r i len cap x : Nat) (L : Array Value) (w : World) (hr : w.heap[r]? = some (.cells L 5 (0, 0))) (hi : i + 10 ≤ L.size) (hl : 10 ≤ len) (hx : 9223372036854775808 ≤ x) (hx2 : x < 18446744073709551616) :
    Calls Tryd.prog 46 #[.slice (some ⟨r, i, none⟩) len cap, .int .u64 x] w fun e w' => e = .returned (.int .i64 10) ∧
      w'.heap[r]? = some (.cells (putL L i (octet x ++ [((x / 72057594037927936 : Nat) : Int), 1])) 5 (0, 0)) ∧ Keep w.heap.size r w w' := by
  have HR : Hid (w.heap[r]? = some (.cells L 5 (0, 0))) := hr
  clear hr
  have HX := Lib.hid hx2
  have HX1 := Lib.hid hx
  clear hx hx2
  go_enter Tryd.func46, Tryd.ntmps46
  go_wp2_with fail
  go_region_with (first | (go_at_call 55; refine (spreadGroups_any x _ (by have := HX.out; omega)).mono ?_; rintro e w' ⟨rfl, rfl⟩) | (go_at_call 54; refine (put64_any r i len cap _ L _ ?_ (by omega) (by omega)).mono ?_; exact HR.out; rintro e w2 ⟨rfl, hr2, hk2⟩))
  all_goals (
    rw [oct_bytes] at hr2
    obtain ⟨L1, hL1⟩ : ∃ L1, putL L i (octet x) = L1 := ⟨_, rfl⟩
    have hs1 : i + 10 ≤ L1.size := by rw [← hL1, putL_size]; exact hi
    rw [hL1] at hr2
    have HL1 := Lib.hid hL1
    clear hL1
    obtain ⟨y8, h8⟩ : ∃ y, w2.cell? ⟨r, i + 8, none⟩ = some y := ⟨_, by rw [Lib.cell_of_heap hr2]; exact Array.getElem?_eq_getElem (by omega)⟩
    have f8 := Lib.frozen_of_heap hr2 (i + 8)
    obtain ⟨y9, h9⟩ : ∃ y, w2.cell? ⟨r, i + 9, none⟩ = some y := ⟨_, by rw [Lib.cell_of_heap hr2]; exact Array.getElem?_eq_getElem (by omega)⟩
    have f9 := Lib.frozen_of_heap hr2 (i + 9)
    have hlt := Lib.lt_of_heap hr2
    have HR2 := Lib.hid hr2
    have HK2 := Lib.hid ((Keep.drewN w 1).trans hk2)
    clear hr2 hk2
    obtain ⟨q, hq⟩ : ∃ q, x / 72057594037927936 = q := ⟨_, rfl⟩
    have hq2 : q < 256 := by have := HX.out; omega
    have hn : (x : Int) / 72057594037927936 % 256 = (q : Int) := by omega
    have hm : (x : Int) / 9223372036854775808 = 1 := by have := HX.out; have := HX1.out; omega
    have hn2 : (x : Int) / 72057594037927936 = (q : Int) := by omega
    rw [hm, hn, hn2]
    have HQ := Lib.hid hq
    clear hq hn hm hn2
    generalize bits BinOp.or IntKind.u64 (SG x : Int) 9259542123273814144 = zz
    go_wp2_with fail)
  all_goals (
    go_ret
    rw [show IntKind.u64.wrap (-1) % 256 = 255 from by rw [IntKind.wrap_u64]; omega, tenth_bits q hq2]
    refine ⟨rfl, ?_, ?_⟩
    · have hk := blk_set (blk_set HR2.out (i + 8) (.int .u8 (q : Int))) (i + 9) (.int .u8 1)
      rw [putL_append, HL1.out, HQ.out]
      exact hk
    · exact HK2.out.trans ((Keep.setCell _ _ _).trans (Keep.setCell _ _ _)))

end Go.Proofs.Qxb6608669aDoor
