/-
  writeOutOfLine (30) through a bufio.Writer over a bytes.Buffer.
-/
import Derived.Test.Qxb6608669aDoorOut
namespace Go.Proofs.Qxb6608669aDoor
open Go.RowKit Go.Deep

theorem Out.keep {b lo k : Nat} {o : List UInt8} {w w' : World} (h : Out b lo o w) (hk : Keep w.heap.size k w w') (hkb : k ≠ b) (hkl : k < lo) : Out b lo o w' := by
  obtain ⟨lr, x, hbk, hc⟩ := h
  refine ⟨lr, x, (hk.block b (Lib.lt_of_heap hbk) (Ne.symm hkb)).trans hbk, ?_⟩
  rcases hc with hc | ⟨g, cap, cur, h1, h2, h3, h4⟩
  · exact Or.inl hc
  · exact Or.inr ⟨g, cap, cur, h1, h2, (hk.block g (Lib.lt_of_heap h3) (by omega)).trans h3, h4⟩

theorem assert_ok (a : Addr) (w : World) : (Instr.typeAssert (.iface 50 (.pointer (some a))) 55 50 true).run Tryd.prog w = .ok (.tuple #[.pointer (some a), .bool true]) w := by kernel_rfl
theorem assert_it (a : Addr) (w : World) : (Instr.typeAssert (.iface 50 (.pointer (some a))) 55 50 false).run Tryd.prog w = .ok (.pointer (some a)) w := by kernel_rfl

set_option maxHeartbeats 4000000 in
set_option maxRecDepth 100000 in
theorem outLine_one (B sz : Nat) (o bb : List UInt8) (x : Nat) (u : UInt8) (w : World) (h : St B sz o bb w) (h1 : 1 ≤ sz) (hs : sz ≤ 65536) (hlim : o.length ≤ 1073741824) (hu : u.toNat = x) (hx : x < 128) :
    Calls Tryd.prog 30 #[.iface 50 (.pointer (some ⟨B + 2, 0, none⟩)), .int .u64 x] w fun e w' => e = .returned (.tuple #[.int .i64 1, .nilIface]) ∧ (∃ o' bb', o' ++ bb' = o ++ bb ++ [u] ∧ St B sz o' bb' w') ∧ Below B w w' := by
  have HS : Hid (St B sz o bb w) := h
  clear h
  have hnn : ∀ w, (binOp .neq 41 .nilIface .nilIface).run Tryd.prog w = .ok (.bool false) w := fun w => Lib.run_neq_nil_nil w Tryd.underlying41
  have hm8 : (x : Int) % 256 = (u.toNat : Int) := by omega
  have d1 : decide ((x : Int) < 128) = true := decide_eq_true (by omega)
  clear hx hu
  have a1 := fun w => assert_ok ⟨B + 2, 0, none⟩ w
  have a2 := fun w => assert_it ⟨B + 2, 0, none⟩ w
  go_enter Tryd.func30, Tryd.ntmps30
  go_wp2_with fail
  refine (wb_any B sz o bb u _ HS.out h1 hs hlim).mono ?_
  rintro e w2 ⟨rfl, ⟨o', bb', he, hS2⟩, hb2⟩
  go_wp2_with fail
  go_ret2
  exact ⟨rfl, ⟨o', bb', he, hS2⟩, hb2⟩

set_option maxHeartbeats 4000000 in
set_option maxRecDepth 100000 in
theorem outLine_room (B sz n c : Nat) (o bb : List UInt8) (x : Nat) (w : World) (h : St B sz o bb w) (hs : sz ≤ 65536) (hn : bb.length = n) (hc : c = sz - n) (h10 : 10 ≤ c) (h1 : 128 ≤ x) (hx : x < 18446744073709551616) :
    Calls Tryd.prog 30 #[.iface 50 (.pointer (some ⟨B + 2, 0, none⟩)), .int .u64 x] w fun e w' => e = .returned (.tuple #[.int .i64 (vb x).length, .nilIface]) ∧ St B sz o (bb ++ vb x) w' ∧ Below B w w' := by
  obtain ⟨ho, hq, ⟨rest, hr, hl⟩, hlo⟩ := id h
  rw [hn] at hq hl
  have c1 : w.cell? ⟨B + 2, 1, none⟩ = some (.slice (some ⟨B + 1, 0, none⟩) sz sz) := by rw [Lib.cell_of_heap hq]; rfl
  have c2 : w.cell? ⟨B + 2, 2, none⟩ = some (.int .i64 n) := by rw [Lib.cell_of_heap hq]; rfl
  have HC := Lib.hid hc
  have HO : Hid (Out B (B + 3) o w) := ho
  have HQ := Lib.hid hq
  have HR := Lib.hid hr
  have HC1 := Lib.hid c1
  have HC2 := Lib.hid c2
  have HX := Lib.hid hx
  have d1 : decide ((x : Int) < 128) = false := decide_eq_false (by omega)
  have d2 : decide ((10 : Int) ≤ (c : Int)) = true := decide_eq_true (by omega)
  have HX1 := Lib.hid h1
  clear h hc ho hq hr c1 c2 h1 hx
  obtain ⟨m, hm⟩ : ∃ m, (vb x).length = m := ⟨_, rfl⟩
  have hm1 : 1 ≤ m := by rw [← hm]; exact vb_pos x
  have hm10 : m ≤ 10 := by rw [← hm]; exact vbF_len 10 x
  have HM := Lib.hid hm
  clear hm
  have a1 := fun w => assert_ok ⟨B + 2, 0, none⟩ w
  have a2 := fun w => assert_it ⟨B + 2, 0, none⟩ w
  go_enter Tryd.func30, Tryd.ntmps30
  go_wp2_with fail
  refine (availBuf_any (B + 2) (B + 1) sz n _ HC1.out HC2.out (by have := HC.out; omega)).mono ?_
  rintro e w2 ⟨rfl, k, rfl⟩
  rw [← HC.out]
  go_wp2_with fail
  refine (appendOut_list (B + 1) n c x _ rest (w.drewN k) HR.out (by rw [Lib.byteCells_length, hn]) (by have := HC.out; omega) h10 (by have := HC.out; omega) HX1.out HX.out).mono ?_
  rintro e w3 ⟨rfl, hr3, hk3⟩
  rw [HM.out] at hr3 ⊢
  have HR3 := Lib.hid hr3
  have HK3 := Lib.hid ((Keep.drewN w k).trans hk3)
  clear hr3 hk3
  go_wp2_with fail
  refine (write_alias B sz o bb (vb x) n m c _ _ ?_ ?_ HR3.out hn HM.out hm1 ?_ hs ?_).mono ?_
  · exact HO.out.keep HK3.out (by omega) (by omega)
  · exact (HK3.out.block (B + 2) (by show B + 2 < w.heap.size; omega) (by omega)).trans HQ.out
  · rw [List.length_drop]; have := HC.out; omega
  · exact Nat.le_trans hlo HK3.out.size
  rintro e w4 ⟨rfl, hS4, hb4⟩
  go_wp2_with fail
  go_ret2
  rw [HM.out]
  refine ⟨rfl, hS4, ?_⟩
  have hb3 : Below B w w3 := ⟨HK3.out.os, HK3.out.tape, HK3.out.output, HK3.out.size, fun j hj => HK3.out.block j (by show j < w.heap.size; omega) (by omega)⟩
  exact hb3.trans hb4

set_option maxHeartbeats 4000000 in
set_option maxRecDepth 100000 in
theorem outLine_few (B sz n c : Nat) (o bb : List UInt8) (x : Nat) (w : World) (h : St B sz o bb w) (hz : 1 ≤ sz) (hs : sz ≤ 65536) (hlim : o.length + bb.length ≤ 1073000000) (hn : bb.length = n) (hlt : n < sz) (hc : c = sz - n) (h10 : c < 10) (h1 : 128 ≤ x) (hx : x < 18446744073709551616) :
    Calls Tryd.prog 30 #[.iface 50 (.pointer (some ⟨B + 2, 0, none⟩)), .int .u64 x] w fun e w' => e = .returned (.tuple #[.int .i64 (vb x).length, .nilIface]) ∧ (∃ o' bb', o' ++ bb' = o ++ bb ++ vb x ∧ St B sz o' bb' w') ∧ Below B w w' := by
  obtain ⟨-, hq, -, -⟩ := id h
  rw [hn] at hq
  have HC1 : Hid (w.cell? ⟨B + 2, 1, none⟩ = some (.slice (some ⟨B + 1, 0, none⟩) sz sz)) := Lib.hid (by rw [Lib.cell_of_heap hq]; rfl)
  have HC2 : Hid (w.cell? ⟨B + 2, 2, none⟩ = some (.int .i64 n)) := Lib.hid (by rw [Lib.cell_of_heap hq]; rfl)
  have HC := Lib.hid hc
  have HS : Hid (St B sz o bb w) := h
  have HX := Lib.hid hx
  have d1 : decide ((x : Int) < 128) = false := decide_eq_false (by omega)
  have d2 : decide ((10 : Int) ≤ (c : Int)) = false := decide_eq_false (by omega)
  clear h hc hq h1 hx
  have a1 := fun w => assert_ok ⟨B + 2, 0, none⟩ w
  have a2 := fun w => assert_it ⟨B + 2, 0, none⟩ w
  go_enter Tryd.func30, Tryd.ntmps30
  go_wp2_with fail
  refine (availBuf_any (B + 2) (B + 1) sz n _ HC1.out HC2.out hlt).mono ?_
  rintro e w2 ⟨rfl, k, rfl⟩
  rw [← HC.out]
  go_wp2_with fail
  refine (bytewise_any B sz o bb x (w.drewN k) HS.out hz hs hlim HX.out).mono ?_
  rintro e w3 ⟨rfl, hS3, hb3⟩
  go_wp2_with fail
  go_ret2
  exact ⟨rfl, hS3, (⟨rfl, rfl, rfl, Nat.le_refl _, fun _ _ => rfl⟩ : Below B w (w.drewN k)).trans hb3⟩

set_option maxHeartbeats 4000000 in
set_option maxRecDepth 100000 in
theorem outLine_full (B sz : Nat) (o bb : List UInt8) (x : Nat) (w : World) (h : St B sz o bb w) (hz : 1 ≤ sz) (hs : sz ≤ 65536) (hlim : o.length + bb.length ≤ 1073000000) (hn : bb.length = sz) (h1 : 128 ≤ x) (hx : x < 18446744073709551616) :
    Calls Tryd.prog 30 #[.iface 50 (.pointer (some ⟨B + 2, 0, none⟩)), .int .u64 x] w fun e w' => e = .returned (.tuple #[.int .i64 (vb x).length, .nilIface]) ∧ (∃ o' bb', o' ++ bb' = o ++ bb ++ vb x ∧ St B sz o' bb' w') ∧ Below B w w' := by
  obtain ⟨-, hq, -, -⟩ := id h
  rw [hn] at hq
  have HC1 : Hid (w.cell? ⟨B + 2, 1, none⟩ = some (.slice (some ⟨B + 1, 0, none⟩) sz sz)) := Lib.hid (by rw [Lib.cell_of_heap hq]; rfl)
  have HC2 : Hid (w.cell? ⟨B + 2, 2, none⟩ = some (.int .i64 sz)) := Lib.hid (by rw [Lib.cell_of_heap hq]; rfl)
  have HS : Hid (St B sz o bb w) := h
  have HX := Lib.hid hx
  have d1 : decide ((x : Int) < 128) = false := decide_eq_false (by omega)
  clear h hq h1 hx
  have a1 := fun w => assert_ok ⟨B + 2, 0, none⟩ w
  have a2 := fun w => assert_it ⟨B + 2, 0, none⟩ w
  go_enter Tryd.func30, Tryd.ntmps30
  go_wp2_with fail
  refine (availBuf_full (B + 2) (B + 1) sz _ HC1.out HC2.out).mono ?_
  rintro e w2 ⟨⟨ao, rfl⟩, k, rfl⟩
  go_wp2_with fail
  refine (bytewise_any B sz o bb x (w.drewN k) HS.out hz hs hlim HX.out).mono ?_
  rintro e w3 ⟨rfl, hS3, hb3⟩
  go_wp2_with fail
  go_ret2
  exact ⟨rfl, hS3, (⟨rfl, rfl, rfl, Nat.le_refl _, fun _ _ => rfl⟩ : Below B w (w.drewN k)).trans hb3⟩

/-- writeOutOfLine through a bufio.Writer. -/
theorem outLine_any (B sz : Nat) (o bb : List UInt8) (x : Nat) (w : World) (h : St B sz o bb w) (hz : 1 ≤ sz) (hs : sz ≤ 65536) (hlim : o.length + bb.length ≤ 1073000000) (hx : x < 18446744073709551616) :
    Calls Tryd.prog 30 #[.iface 50 (.pointer (some ⟨B + 2, 0, none⟩)), .int .u64 x] w fun e w' => e = .returned (.tuple #[.int .i64 (vb x).length, .nilIface]) ∧ (∃ o' bb', o' ++ bb' = o ++ bb ++ vb x ∧ St B sz o' bb' w') ∧ Below B w w' := by
  by_cases h1 : x < 128
  · have hv : vb x = [UInt8.ofNat x] := vbF_small 9 x h1
    rw [hv]
    exact outLine_one B sz o bb x (UInt8.ofNat x) w h hz hs (by omega) (toNat_ofNat x (by omega)) h1
  obtain ⟨-, -, ⟨rest, -, hl⟩, -⟩ := id h
  by_cases h2 : bb.length = sz
  · exact outLine_full B sz o bb x w h hz hs hlim h2 (by omega) hx
  by_cases h3 : 10 ≤ sz - bb.length
  · refine (outLine_room B sz bb.length _ o bb x w h hs rfl rfl h3 (by omega) hx).mono ?_
    rintro e w' ⟨rfl, hS, hb⟩
    exact ⟨rfl, ⟨o, bb ++ vb x, (List.append_assoc _ _ _).symm, hS⟩, hb⟩
  · exact outLine_few B sz bb.length _ o bb x w h hz hs hlim rfl (by omega) rfl (by omega) (by omega) hx
end Go.Proofs.Qxb6608669aDoor
