/-
  bufio.Writer over a bytes.Buffer: the state, Flush (29).
-/
import Derived.Test.Qxb6608669aDoorWrite
namespace Go.Proofs.Qxb6608669aDoor
open Go.RowKit Go.Deep

/-- The writer over the buffer: the bytes.Buffer in block B holds o; the bufio.Writer in block B + 2, its row of sz cells in block B + 1, holds bb. -/
def St (B sz : Nat) (o bb : List UInt8) (w : World) : Prop :=
  Out B (B + 3) o w ∧
  w.heap[B + 2]? = some (.cells #[.nilIface, .slice (some ⟨B + 1, 0, none⟩) sz sz, .int .i64 bb.length, .iface 38 (.pointer (some ⟨B, 0, none⟩))] 59 (0, 0)) ∧
  (∃ rest, w.heap[B + 1]? = some (.cells (Lib.byteCells bb ++ rest).toArray 5 (0, 0)) ∧ bb.length + rest.length = sz) ∧ B + 3 ≤ w.heap.size

theorem meth_write (a : Addr) (w : World) : (method 211 38 (.pointer (some a)) "Write").run Tryd.prog w = .ok (39, .pointer (some a)) w := by kernel_rfl

theorem row_src {w : World} {r : Nat} {bb : List UInt8} {rest : List Value} (hr : w.heap[r]? = some (.cells (Lib.byteCells bb ++ rest).toArray 5 (0, 0))) :
    ∀ j v, (Lib.byteCells bb)[j]? = some v → w.cell? ((⟨r, 0, none⟩ : Addr).add j) = some v := by
  intro j v hj
  rw [Lib.addr_add, Nat.zero_add, Lib.cell_of_heap hr]
  have hlt : j < (Lib.byteCells bb).length := (List.getElem?_eq_some_iff.1 hj).1
  simp only [List.getElem?_toArray]
  rw [List.getElem?_append_left hlt]; exact hj

theorem Out.setOther {b lo : Nat} {o : List UInt8} {w : World} (h : Out b lo o w) {k : Nat} (hk : k < lo) (hb : k ≠ b) (i : Nat) (v : Value) : Out b lo o (w.setCell ⟨k, i, none⟩ v) := by
  obtain ⟨lr, x, hbk, hc⟩ := h
  refine ⟨lr, x, (blk_setCell_other _ _ _ _ (Ne.symm hb)).trans hbk, ?_⟩
  rcases hc with hc | ⟨g, cap, cur, h1, h2, h3, h4⟩
  · exact Or.inl hc
  · exact Or.inr ⟨g, cap, cur, h1, h2, (blk_setCell_other _ _ _ _ (show g ≠ k by omega)).trans h3, h4⟩

theorem Out.drewN {b lo : Nat} {o : List UInt8} {w : World} (h : Out b lo o w) (n : Nat) : Out b lo o (w.drewN n) := h
theorem St.drewN {B sz : Nat} {o bb : List UInt8} {w : World} (h : St B sz o bb w) (n : Nat) : St B sz o bb (w.drewN n) := h

theorem keep_below {B b : Nat} {w w' : World} (h : Keep (B + 3) b w w') (hb : B ≤ b) : Below B w w' := ⟨h.os, h.tape, h.output, h.size, fun k hk => h.block k (by omega) (by omega)⟩

set_option maxHeartbeats 2000000 in
theorem flush_none (B sz : Nat) (w : World) (hq : w.heap[B + 2]? = some (.cells #[.nilIface, .slice (some ⟨B + 1, 0, none⟩) sz sz, .int .i64 0, .iface 38 (.pointer (some ⟨B, 0, none⟩))] 59 (0, 0))) :
    Calls Tryd.prog 29 #[.pointer (some ⟨B + 2, 0, none⟩)] w fun e w' => e = .returned .nilIface ∧ w = w' := by
  have c0 : w.cell? ⟨B + 2, 0, none⟩ = some .nilIface := by rw [Lib.cell_of_heap hq]; rfl
  have c2 : w.cell? ⟨B + 2, 2, none⟩ = some (.int .i64 0) := by rw [Lib.cell_of_heap hq]; rfl
  have hnn : ∀ w, (binOp .neq 41 .nilIface .nilIface).run Tryd.prog w = .ok (.bool false) w := fun w => Lib.run_neq_nil_nil w Tryd.underlying41
  go_enter Tryd.func29, Tryd.ntmps29
  go_wp2
  go_ret
  exact ⟨rfl, rfl⟩

theorem flush_end {B sz n : Nat} {o bb : List UInt8} {rest : List Value} {w w2 : World} (ho2 : Out B (B + 3) (o ++ bb) w2) (hk2 : Keep (B + 3) B w w2)
    (hq2 : w2.heap[B + 2]? = some (.cells #[.nilIface, .slice (some ⟨B + 1, 0, none⟩) sz sz, .int .i64 n, .iface 38 (.pointer (some ⟨B, 0, none⟩))] 59 (0, 0)))
    (hr : w.heap[B + 1]? = some (.cells (Lib.byteCells bb ++ rest).toArray 5 (0, 0))) (hn : bb.length = n) (hsz : n + rest.length = sz) (hlo : B + 3 ≤ w.heap.size) :
    St B sz (o ++ bb) [] (w2.setCell ⟨B + 2, 2, none⟩ (.int .i64 0)) ∧ Below B w (w2.setCell ⟨B + 2, 2, none⟩ (.int .i64 0)) := by
  refine ⟨⟨ho2.setOther (by omega) (by omega) _ _, ?_, ⟨Lib.byteCells bb ++ rest, ?_, ?_⟩, ?_⟩, ?_⟩
  · exact blk_set hq2 2 _
  · exact (blk_setCell_other _ _ _ _ (by simp)).trans ((hk2.block (B + 1) (by omega) (by omega)).trans hr)
  · simp only [List.length_nil, List.length_append, Lib.byteCells_length]; omega
  · rw [nblk_setCell]; exact Nat.le_trans hlo hk2.size
  · exact (keep_below hk2 (Nat.le_refl _)).setCell (p := ⟨B + 2, 2, none⟩) (show B ≤ B + 2 by omega) _

set_option maxHeartbeats 6400000 in
set_option maxRecDepth 100000 in
theorem flush_some (B sz : Nat) (o bb : List UInt8) (n : Nat) (rest : List Value) (w : World) (ho : Out B (B + 3) o w)
    (hq : w.heap[B + 2]? = some (.cells #[.nilIface, .slice (some ⟨B + 1, 0, none⟩) sz sz, .int .i64 n, .iface 38 (.pointer (some ⟨B, 0, none⟩))] 59 (0, 0)))
    (hr : w.heap[B + 1]? = some (.cells (Lib.byteCells bb ++ rest).toArray 5 (0, 0))) (hn : bb.length = n) (h1 : 1 ≤ n) (hsz : n + rest.length = sz) (hs : sz ≤ 65536) (hlo : B + 3 ≤ w.heap.size) (hlim : o.length ≤ 1073741824) :
    Calls Tryd.prog 29 #[.pointer (some ⟨B + 2, 0, none⟩)] w fun e w' => e = .returned .nilIface ∧ St B sz (o ++ bb) [] w' ∧ Below B w w' := by
  have c0 : w.cell? ⟨B + 2, 0, none⟩ = some .nilIface := by rw [Lib.cell_of_heap hq]; rfl
  have c1 : w.cell? ⟨B + 2, 1, none⟩ = some (.slice (some ⟨B + 1, 0, none⟩) sz sz) := by rw [Lib.cell_of_heap hq]; rfl
  have c2 : w.cell? ⟨B + 2, 2, none⟩ = some (.int .i64 n) := by rw [Lib.cell_of_heap hq]; rfl
  have c3 : w.cell? ⟨B + 2, 3, none⟩ = some (.iface 38 (.pointer (some ⟨B, 0, none⟩))) := by rw [Lib.cell_of_heap hq]; rfl
  have hnn : ∀ w, (binOp .neq 41 .nilIface .nilIface).run Tryd.prog w = .ok (.bool false) w := fun w => Lib.run_neq_nil_nil w Tryd.underlying41
  have hn0 : ((n : Int) == 0) = false := beq_eq_false_iff_ne.2 (by omega)
  go_enter Tryd.func29, Tryd.ntmps29
  go_wp2
  have hme := meth_write
  have HO : Hid (Out B (B + 3) o w) := ho
  have HR : Hid (w.heap[B + 1]? = some (.cells (Lib.byteCells bb ++ rest).toArray 5 (0, 0))) := hr
  clear ho hr
  go_region_with (go_at_call 39; refine (write_any B (B + 3) o bb n ⟨B + 1, 0, none⟩ sz _ ?_ (by omega) ?_ hn h1 (by omega) (by simp) ?_).mono ?_; exact HO.out; exact hlo; exact row_src HR.out; rintro e w2 ⟨rfl, ho2, hk2⟩; have hq2 := (hk2.block (B + 2) (by omega) (by omega)).trans hq; have d2 : w2.cell? ⟨B + 2, 2, none⟩ = some (.int .i64 n) := by { rw [Lib.cell_of_heap hq2]; rfl }; have g2 : w2.frozen? ⟨B + 2, 2, none⟩ = false := Lib.frozen_of_heap hq2 2)
  all_goals (
    clear hme c0 c1 c2 c3
    go_wp2
    go_ret
    exact ⟨rfl, flush_end ho2 ((Keep.drewN w 1).trans hk2) hq2 HR.out hn hsz hlo⟩)

theorem flush_any (B sz : Nat) (o bb : List UInt8) (w : World) (h : St B sz o bb w) (hs : sz ≤ 65536) (hlim : o.length ≤ 1073741824) :
    Calls Tryd.prog 29 #[.pointer (some ⟨B + 2, 0, none⟩)] w fun e w' => e = .returned .nilIface ∧ St B sz (o ++ bb) [] w' ∧ Below B w w' := by
  obtain ⟨ho, hq, ⟨rest, hr, hl⟩, hlo⟩ := id h
  by_cases hb : bb = []
  · subst hb
    refine (flush_none B sz w hq).mono ?_
    rintro e w' ⟨rfl, rfl⟩
    rw [List.append_nil]
    exact ⟨rfl, h, Below.refl _ _⟩
  · have h1 : 1 ≤ bb.length := by
      cases bb with
      | nil => exact absurd rfl hb
      | cons x y => simp
    exact flush_some B sz o bb bb.length rest w ho hq hr rfl h1 hl hs hlo hlim
end Go.Proofs.Qxb6608669aDoor
