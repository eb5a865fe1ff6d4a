/-
  writeBytewise (37): the varint, a byte at a time.
-/
import Derived.Test.Qxb6608669aDoorByte
import Derived.Test.Qxb6608669aDoorPlain
namespace Go.Proofs.Qxb6608669aDoor
open Go.RowKit Go.Deep

/-- WriteByte at a number below 256. -/
theorem wb_num (B sz : Nat) (o bb : List UInt8) (a : Nat) (c : Int) (w : World) (h : St B sz o bb w) (h1 : 1 ≤ sz) (hs : sz ≤ 65536) (hlim : o.length ≤ 1073741824) (ha : a < 256) (hc : c = (a : Int)) :
    Calls Tryd.prog 34 #[.pointer (some ⟨B + 2, 0, none⟩), .int .u8 c] w fun e w' => e = .returned .nilIface ∧ (∃ o' bb', o' ++ bb' = o ++ bb ++ [UInt8.ofNat a] ∧ St B sz o' bb' w') ∧ Below B w w' := by
  have hh := wb_any B sz o bb (UInt8.ofNat a) w h h1 hs hlim
  rw [toNat_ofNat a ha, ← hc] at hh
  exact hh

set_option maxHeartbeats 2000000 in
set_option maxRecDepth 10000 in
theorem bytewise_any (B sz : Nat) (o bb : List UInt8) (x : Nat) (w : World) (h : St B sz o bb w) (h1 : 1 ≤ sz) (hs : sz ≤ 65536) (hlim : o.length + bb.length ≤ 1073000000) (hx : x < 18446744073709551616) :
    Calls Tryd.prog 37 #[.pointer (some ⟨B + 2, 0, none⟩), .int .u64 x] w fun e w' => e = .returned (.tuple #[.int .i64 (vb x).length, .nilIface]) ∧ (∃ o' bb', o' ++ bb' = o ++ bb ++ vb x ∧ St B sz o' bb' w') ∧ Below B w w' := by
  have HS : Hid (St B sz o bb w) := h
  clear h
  have hnn : ∀ w, (binOp .neq 41 .nilIface .nilIface).run Tryd.prog w = .ok (.bool false) w := fun w => Lib.run_neq_nil_nil w Tryd.underlying41
  go_enter Tryd.func37, Tryd.ntmps37
  go_wp2
  go_loopw [1, 6] (fun vx vn wr => ∃ (y f : Nat) (done o' bb' : List UInt8), vx = .int .u64 y ∧ vn = .int .i64 done.length ∧ y < 18446744073709551616 ∧ f ≤ 9 ∧ Hid (y < 128 ^ (f + 1)) ∧ done.length + f ≤ 9 ∧ Hid (done ++ vbF (f + 1) y = vb x) ∧ Hid (o' ++ bb' = o ++ bb ++ done) ∧ Hid (St B sz o' bb' wr) ∧ Below B w wr)
    (fun vx _ _ => (intOf vx).toNat)
  case atStart => exact ⟨x, 9, [], o, bb, rfl, rfl, hx, by omega, (show x < 128 ^ (9 + 1) by omega), by simp, rfl, (show o ++ bb = o ++ bb ++ [] by rw [List.append_nil]), HS.out, Below.refl _ _⟩
  case round =>
    obtain ⟨y, f, done, o', bb', rfl, rfl, hy, hf, HY, hdf, HD, HO, HW, hb⟩ := hrel
    have hol : o'.length ≤ 1073741824 := by
      have := congrArg List.length HO.out
      simp only [List.length_append] at this
      omega
    by_cases hlt : y < 128
    · have hlt' : (y : Int) < 128 := by omega
      go_wp2_with fail
      refine (wb_num B sz o' bb' y _ _ HW.out h1 hs hol (by omega) rfl).mono ?_
      rintro e w2 ⟨rfl, hO2, hb2⟩
      go_wp2_with fail
      go_ret2
      have hv : vb x = done ++ [UInt8.ofNat y] := by rw [← HD.out, vbF_small f y hlt]
      refine ⟨?_, ?_, hb.trans hb2⟩
      · rw [hv, List.length_append]; rfl
      · obtain ⟨o2, bb2, he, hS2⟩ := hO2
        exact ⟨o2, bb2, by rw [he, HO.out, hv, List.append_assoc], hS2⟩
    · have hge : ¬ (y : Int) < 128 := by omega
      have hfp : 1 ≤ f := by
        rcases Nat.eq_zero_or_pos f with h0 | h0
        · have := HY.out; rw [h0] at this; simp at this; omega
        · exact h0
      go_wp2_with fail
      refine (wb_num B sz o' bb' (y % 128 + 128) _ _ HW.out h1 hs hol (by omega) (by have := or128 y; rwa [Int.natCast_emod] at this)).mono ?_
      rintro e w2 ⟨rfl, hO2, hb2⟩
      have HO2 : Hid (∃ o2 bb2, o2 ++ bb2 = o' ++ bb' ++ [UInt8.ofNat (y % 128 + 128)] ∧ St B sz o2 bb2 w2) := hO2
      clear hO2
      go_wp2_with fail
      go_roundw
      case rel =>
        obtain ⟨o2, bb2, he, hS2⟩ := HO2.out
        obtain ⟨f', rfl⟩ : ∃ f', f = f' + 1 := ⟨f - 1, by omega⟩
        refine ⟨y / 128, f', done ++ [UInt8.ofNat (y % 128 + 128)], o2, bb2, by go_num, ?_, by omega, by omega, ?_, ?_, ?_, ?_, hS2, hb.trans hb2⟩
        · rw [List.length_append]; go_num
        · show y / 128 < 128 ^ (f' + 1)
          have := HY.out
          rw [Nat.pow_succ] at this
          exact Nat.div_lt_of_lt_mul (by rw [Nat.mul_comm]; exact this)
        · rw [List.length_append]; simp; omega
        · show done ++ [UInt8.ofNat (y % 128 + 128)] ++ vbF (f' + 1) (y / 128) = vb x
          rw [← HD.out, vbF_big (f' + 1) y hlt, List.append_assoc]; rfl
        · show o2 ++ bb2 = o ++ bb ++ (done ++ [UInt8.ofNat (y % 128 + 128)])
          rw [he, HO.out, List.append_assoc (o ++ bb)]
      case measure => simp [intOf]; omega
end Go.Proofs.Qxb6608669aDoor
