/-
  bufio.Writer over a bytes.Buffer: Available (32), Buffered (33), AvailableBuffer (35), WriteByte (34).
-/
import Derived.Test.Qxb6608669aDoorFlush
import Derived.WalkSmall
namespace Go.Proofs.Qxb6608669aDoor
open Go.RowKit Go.Deep

theorem avail_any (q : Nat) (ao : Option Addr) (sz cap n : Nat) (w : World) (c1 : w.cell? ⟨q, 1, none⟩ = some (.slice ao sz cap)) (c2 : w.cell? ⟨q, 2, none⟩ = some (.int .i64 n)) (hn : n ≤ sz) (hs : sz ≤ 65536) :
    Calls Tryd.prog 32 #[.pointer (some ⟨q, 0, none⟩)] w fun e w' => e = .returned (.int .i64 ((sz : Int) - n)) ∧ ∃ k, w' = w.drewN k := by
  have hw : IntKind.i64.wrap ((sz : Int) - n) = (sz : Int) - n := by rw [IntKind.wrap_i64]; omega
  go_enter Tryd.func32, Tryd.ntmps32
  go_wp2
  go_quiet (fail)
  go_wp2
  go_ret
  exact ⟨rfl, _, rfl⟩

theorem buffered_any (q n : Nat) (w : World) (c2 : w.cell? ⟨q, 2, none⟩ = some (.int .i64 n)) :
    Calls Tryd.prog 33 #[.pointer (some ⟨q, 0, none⟩)] w fun e w' => e = .returned (.int .i64 n) ∧ w = w' := by
  go_enter Tryd.func33, Tryd.ntmps33
  go_wp2
  go_ret
  exact ⟨rfl, rfl⟩

theorem availBuf_any (q r : Nat) (sz n : Nat) (w : World) (c1 : w.cell? ⟨q, 1, none⟩ = some (.slice (some ⟨r, 0, none⟩) sz sz)) (c2 : w.cell? ⟨q, 2, none⟩ = some (.int .i64 n)) (hn : n < sz) :
    Calls Tryd.prog 35 #[.pointer (some ⟨q, 0, none⟩)] w fun e w' => e = .returned (.slice (some ⟨r, n, none⟩) 0 (sz - n)) ∧ ∃ k, w' = w.drewN k := by
  have hne : ¬ sz = n := by omega
  go_enter Tryd.func35, Tryd.ntmps35
  go_wp2
  go_quiet (fail)
  go_wp2
  go_ret
  exact ⟨rfl, _, rfl⟩

theorem availBuf_full (q r : Nat) (sz : Nat) (w : World) (c1 : w.cell? ⟨q, 1, none⟩ = some (.slice (some ⟨r, 0, none⟩) sz sz)) (c2 : w.cell? ⟨q, 2, none⟩ = some (.int .i64 sz)) :
    Calls Tryd.prog 35 #[.pointer (some ⟨q, 0, none⟩)] w fun e w' => (∃ ao, e = .returned (.slice ao 0 0)) ∧ ∃ k, w' = w.drewN k := by
  go_enter Tryd.func35, Tryd.ntmps35
  go_wp2
  go_quiet (fail)
  go_wp2
  go_ret
  exact ⟨⟨_, rfl⟩, _, rfl⟩

/-- A byte laid behind those that the writer holds. -/
theorem put_end {B sz : Nat} {o bb : List UInt8} {x : UInt8} {w : World} {n : Nat} (h : St B sz o bb w) (hbn : bb.length = n) (hn : n < sz) :
    St B sz o (bb ++ [x]) ((w.setCell ⟨B + 1, n, none⟩ (.int .u8 x.toNat)).setCell ⟨B + 2, 2, none⟩ (.int .i64 ((n : Int) + 1))) := by
  subst hbn
  obtain ⟨ho, hq, ⟨rest, hr, hl⟩, hlo⟩ := h
  refine ⟨(ho.setOther (by omega) (by omega) _ _).setOther (by omega) (by omega) _ _, ?_, ?_, ?_⟩
  · have := blk_set ((blk_setCell_other w ⟨B + 1, bb.length, none⟩ (.int .u8 x.toNat) (B + 2) (by simp)).trans hq) 2 (.int .i64 ((bb.length : Int) + 1))
    rw [List.length_append]
    exact this
  · cases rest with
    | nil => simp at hl; omega
    | cons y ys =>
      refine ⟨ys, ?_, ?_⟩
      · rw [blk_setCell_other _ _ _ _ (by simp), blk_set hr, Lib.byteCells_append, List.append_assoc]
        congr 2
        apply Array.toList_inj.1
        simp only [Array.toList_setIfInBounds]
        rw [List.set_append_right _ _ (by rw [Lib.byteCells_length]; exact Nat.le_refl _), Lib.byteCells_length, Nat.sub_self]
        rfl
      · simp at hl ⊢; omega
  · rw [nblk_setCell, nblk_setCell]; exact hlo

set_option maxHeartbeats 2000000 in
theorem wb_room (B sz : Nat) (o bb : List UInt8) (x : UInt8) (w : World) (h : St B sz o bb w) (hn : bb.length < sz) (hs : sz ≤ 65536) :
    Calls Tryd.prog 34 #[.pointer (some ⟨B + 2, 0, none⟩), .int .u8 x.toNat] w fun e w' => e = .returned .nilIface ∧ St B sz o (bb ++ [x]) w' ∧ Below B w w' := by
  obtain ⟨ho, hq, ⟨rest, hr, hl⟩, hlo⟩ := id h
  have HS : Hid (St B sz o bb w) := h
  clear h ho
  obtain ⟨n, hbn⟩ : ∃ n, bb.length = n := ⟨_, rfl⟩
  rw [hbn] at hq hl hn
  have HB : Hid (bb.length = n) := hbn
  clear hbn
  have c0 : w.cell? ⟨B + 2, 0, none⟩ = some .nilIface := by rw [Lib.cell_of_heap hq]; rfl
  have c1 : w.cell? ⟨B + 2, 1, none⟩ = some (.slice (some ⟨B + 1, 0, none⟩) sz sz) := by rw [Lib.cell_of_heap hq]; rfl
  have c2 : w.cell? ⟨B + 2, 2, none⟩ = some (.int .i64 n) := by rw [Lib.cell_of_heap hq]; rfl
  have f2 : w.frozen? ⟨B + 2, 2, none⟩ = false := Lib.frozen_of_heap hq 2
  have hnn : ∀ w, (binOp .neq 41 .nilIface .nilIface).run Tryd.prog w = .ok (.bool false) w := fun w => Lib.run_neq_nil_nil w Tryd.underlying41
  obtain ⟨y, hy⟩ : ∃ y, w.cell? ⟨B + 1, n, none⟩ = some y := by
    rw [Lib.cell_of_heap hr]
    have : n < (Lib.byteCells bb ++ rest).toArray.size := by simp [Lib.byteCells_length]; have := HB.out; omega
    exact ⟨_, Array.getElem?_eq_getElem this⟩
  have fr : w.frozen? ⟨B + 1, n, none⟩ = false := Lib.frozen_of_heap hr n
  clear hr hq
  have hgt : ¬ (sz : Int) - n ≤ 0 := by omega
  go_enter Tryd.func34, Tryd.ntmps34
  go_wp2_with (go_at_call 32; refine (avail_any (B + 2) _ sz sz n _ (by exact c1) (by exact c2) (by omega) hs).mono ?_; rintro e w' ⟨rfl, k, rfl⟩)
  go_region
  go_wp2
  go_ret
  exact ⟨rfl, put_end (HS.out.drewN (k + 1)) HB.out hn, ((below_drewN (Below.refl B w) (k + 1)).setCell (p := ⟨B + 1, n, none⟩) (show B ≤ B + 1 by omega) _).setCell (p := ⟨B + 2, 2, none⟩) (show B ≤ B + 2 by omega) _⟩

set_option maxHeartbeats 2000000 in
theorem wb_full (B sz : Nat) (o bb : List UInt8) (x : UInt8) (w : World) (h : St B sz o bb w) (hn : bb.length = sz) (h1 : 1 ≤ sz) (hs : sz ≤ 65536) (hlim : o.length ≤ 1073741824) :
    Calls Tryd.prog 34 #[.pointer (some ⟨B + 2, 0, none⟩), .int .u8 x.toNat] w fun e w' => e = .returned .nilIface ∧ St B sz (o ++ bb) [x] w' ∧ Below B w w' := by
  obtain ⟨ho, hq, -, hlo⟩ := id h
  have HS : Hid (St B sz o bb w) := h
  clear h ho
  rw [hn] at hq
  clear hn
  have c0 : w.cell? ⟨B + 2, 0, none⟩ = some .nilIface := by rw [Lib.cell_of_heap hq]; rfl
  have c1 : w.cell? ⟨B + 2, 1, none⟩ = some (.slice (some ⟨B + 1, 0, none⟩) sz sz) := by rw [Lib.cell_of_heap hq]; rfl
  have c2 : w.cell? ⟨B + 2, 2, none⟩ = some (.int .i64 sz) := by rw [Lib.cell_of_heap hq]; rfl
  have hnn : ∀ w, (binOp .neq 41 .nilIface .nilIface).run Tryd.prog w = .ok (.bool false) w := fun w => Lib.run_neq_nil_nil w Tryd.underlying41
  clear hq
  go_enter Tryd.func34, Tryd.ntmps34
  go_wp2_with (go_at_call 32; refine (avail_any (B + 2) _ sz sz sz _ (by exact c1) (by exact c2) (by omega) hs).mono ?_; rintro e w' ⟨rfl, k, rfl⟩)
  refine (flush_any B sz o bb _ (HS.out.drewN k) hs hlim).mono ?_
  rintro e w2 ⟨rfl, hS2, hb2⟩
  obtain ⟨-, hq2, ⟨rest, hr, hl⟩, -⟩ := id hS2
  have HS2 : Hid (St B sz (o ++ bb) [] w2) := hS2
  clear hS2 c0 c1 c2
  have d1 : w2.cell? ⟨B + 2, 1, none⟩ = some (.slice (some ⟨B + 1, 0, none⟩) sz sz) := by rw [Lib.cell_of_heap hq2]; rfl
  have d2 : w2.cell? ⟨B + 2, 2, none⟩ = some (.int .i64 0) := by rw [Lib.cell_of_heap hq2]; rfl
  have g2 : w2.frozen? ⟨B + 2, 2, none⟩ = false := Lib.frozen_of_heap hq2 2
  obtain ⟨y, hy⟩ : ∃ y, w2.cell? ⟨B + 1, 0, none⟩ = some y := by
    rw [Lib.cell_of_heap hr]
    have : 0 < (Lib.byteCells [] ++ rest).toArray.size := by simp [Lib.byteCells]; simp at hl; omega
    exact ⟨_, Array.getElem?_eq_getElem this⟩
  have fr : w2.frozen? ⟨B + 1, 0, none⟩ = false := Lib.frozen_of_heap hr 0
  clear hr hq2
  go_wp2_with fail
  go_region
  go_wp2
  go_ret
  have hend := put_end (x := x) (n := 0) (HS2.out.drewN 1) rfl (by omega)
  exact ⟨rfl, hend, (((below_drewN (Below.refl B w) k).trans (below_drewN hb2 1)).setCell (p := ⟨B + 1, 0, none⟩) (show B ≤ B + 1 by omega) _).setCell (p := ⟨B + 2, 2, none⟩) (show B ≤ B + 2 by omega) _⟩

/-- WriteByte: the byte comes behind all that was written. -/
theorem wb_any (B sz : Nat) (o bb : List UInt8) (x : UInt8) (w : World) (h : St B sz o bb w) (h1 : 1 ≤ sz) (hs : sz ≤ 65536) (hlim : o.length ≤ 1073741824) :
    Calls Tryd.prog 34 #[.pointer (some ⟨B + 2, 0, none⟩), .int .u8 x.toNat] w fun e w' => e = .returned .nilIface ∧ (∃ o' bb', o' ++ bb' = o ++ bb ++ [x] ∧ St B sz o' bb' w') ∧ Below B w w' := by
  obtain ⟨-, -, ⟨rest, -, hl⟩, -⟩ := id h
  by_cases hn : bb.length < sz
  · refine (wb_room B sz o bb x w h hn hs).mono ?_
    rintro e w' ⟨rfl, hS, hb⟩
    exact ⟨rfl, ⟨o, bb ++ [x], by rw [List.append_assoc], hS⟩, hb⟩
  · refine (wb_full B sz o bb x w h (by omega) h1 hs hlim).mono ?_
    rintro e w' ⟨rfl, hS, hb⟩
    exact ⟨rfl, ⟨o ++ bb, [x], rfl, hS⟩, hb⟩
end Go.Proofs.Qxb6608669aDoor
