/-
  bufio.Writer.Write (28): p that does not fit into an empty writer.
-/
import Derived.Test.Qxb6608669aDoorPut
namespace Go.Proofs.Qxb6608669aDoor
open Go.RowKit Go.Deep

def lenOf : Value → Nat
  | .slice _ n _ => n
  | _ => 0

theorem direct_end {B sz : Nat} {o cs : List UInt8} {w w2 : World} (hS : St B sz o [] w) (ho2 : Out B (B + 3) (o ++ cs) w2) (hk : Keep (B + 3) B w w2) :
    St B sz (o ++ cs) [] (w2.setCell ⟨B + 2, 0, none⟩ .nilIface) ∧ Below B w (w2.setCell ⟨B + 2, 0, none⟩ .nilIface) := by
  obtain ⟨-, hq, ⟨rest, hr, hl⟩, hlo⟩ := hS
  refine ⟨⟨ho2.setOther (by omega) (by omega) _ _, ?_, ⟨rest, ?_, hl⟩, ?_⟩, ?_⟩
  · exact blk_set ((hk.block (B + 2) (by omega) (by omega)).trans hq) 0 _
  · exact (blk_setCell_other _ _ _ _ (by simp)).trans ((hk.block (B + 1) (by omega) (by omega)).trans hr)
  · rw [nblk_setCell]; exact Nat.le_trans hlo hk.size
  · exact (keep_below hk (Nat.le_refl _)).setCell (p := ⟨B + 2, 0, none⟩) (show B ≤ B + 2 by omega) _

theorem zero_end {B sz : Nat} {o : List UInt8} {w : World} (hS : St B sz o [] w) : St B sz o [] (w.setCell ⟨B + 2, 2, none⟩ (.int .i64 0)) := by
  obtain ⟨ho, hq, ⟨rest, hr, hl⟩, hlo⟩ := hS
  exact count_end (n := 0) ho hq hr rfl (by simpa using hl) hlo

-- Write into an empty writer, where p does not fit: straight to the writer beneath.
set_option maxHeartbeats 4000000 in
set_option maxRecDepth 10000 in
theorem write_direct (B sz : Nat) (o cs : List UInt8) (m c : Nat) (a : Addr) (w : World) (h : St B sz o [] w) (hab : a.block < B)
    (hsrc : ∀ j v, (Lib.byteCells cs)[j]? = some v → w.cell? (a.add j) = some v) (hm : cs.length = m) (hmc : m ≤ c) (hcm : c ≤ 140737488355328) (hlim : o.length + m ≤ 1073741824)
    (h1 : 1 ≤ sz) (hs : sz ≤ 65536) (hfit : sz < m) :
    Calls Tryd.prog 28 #[.pointer (some ⟨B + 2, 0, none⟩), .slice (some a) m c] w fun e w' => e = .returned (.tuple #[.int .i64 m, .nilIface]) ∧ St B sz (o ++ cs) [] w' ∧ Below B w w' := by
  obtain ⟨ho, hq, ⟨rest, hr, hl⟩, hlo⟩ := id h
  have HS : Hid (St B sz o [] w) := h
  clear h
  have c0 : w.cell? ⟨B + 2, 0, none⟩ = some .nilIface := by rw [Lib.cell_of_heap hq]; rfl
  have c1 : w.cell? ⟨B + 2, 1, none⟩ = some (.slice (some ⟨B + 1, 0, none⟩) sz sz) := by rw [Lib.cell_of_heap hq]; rfl
  have c2 : w.cell? ⟨B + 2, 2, none⟩ = some (.int .i64 0) := by rw [Lib.cell_of_heap hq]; rfl
  have c3 : w.cell? ⟨B + 2, 3, none⟩ = some (.iface 38 (.pointer (some ⟨B, 0, none⟩))) := by rw [Lib.cell_of_heap hq]; rfl
  have hnn : ∀ w, (binOp .neq 41 .nilIface .nilIface).run Tryd.prog w = .ok (.bool false) w := fun w => Lib.run_neq_nil_nil w Tryd.underlying41
  have hen : ∀ w, (binOp .eql 41 .nilIface .nilIface).run Tryd.prog w = .ok (.bool true) w := fun w => by kernel_rfl
  have hme := meth_write
  have HO : Hid (Out B (B + 3) o w) := ho
  have HC := Lib.hid hsrc
  clear ho hr hsrc
  have hgt : (sz : Int) < m := by omega
  go_enter Tryd.func28, Tryd.ntmps28
  go_wp2
  go_loopw [1, 4, 6] (fun p nn _ wr => (p = .slice (some a) m c ∧ nn = .int .i64 0 ∧ wr = w) ∨ ∃ ao c', p = .slice ao 0 c' ∧ nn = .int .i64 m ∧ Hid (St B sz (o ++ cs) [] wr) ∧ Below B w wr) (fun p _ _ _ => lenOf p)
  case atStart => exact Or.inl ⟨rfl, rfl, rfl⟩
  case round =>
    rcases hrel with ⟨rfl, rfl, rfl⟩ | ⟨ao, c', rfl, rfl, HW, hb⟩
    · go_wp2_with (first | (go_at_call 32; refine (avail_any (B + 2) _ sz sz 0 _ (by exact c1) (by exact c2) (by omega) hs).mono ?_; rintro e w' ⟨rfl, k, rfl⟩) | (go_at_call 33; refine (buffered_any (B + 2) 0 _ (by exact c2)).mono ?_; rintro e w' ⟨rfl, rfl⟩))
      refine (write_any B (B + 3) o cs m a c _ (by exact HO.out) (by omega) (by exact hlo) hm (by omega) (by omega) (by omega) (by exact HC.out)).mono ?_
      rintro e w2 ⟨rfl, ho2, hk2⟩
      have HO2 : Hid (Out B (B + 3) (o ++ cs) w2) := ho2
      clear ho2
      have hq2 : w2.heap[B + 2]? = some (.cells #[.nilIface, .slice (some ⟨B + 1, 0, none⟩) sz sz, .int .i64 0, .iface 38 (.pointer (some ⟨B, 0, none⟩))] 59 (0, 0)) := (hk2.block (B + 2) (by omega) (by omega)).trans hq
      have d0 : w2.cell? ⟨B + 2, 0, none⟩ = some .nilIface := by rw [Lib.cell_of_heap hq2]; rfl
      have g0 : w2.frozen? ⟨B + 2, 0, none⟩ = false := Lib.frozen_of_heap hq2 0
      have HK := Lib.hid hk2
      have HQ := Lib.hid hq2
      clear hk2 hq2
      have hend := direct_end HS.out HO2.out ((Keep.drewN _ k).trans HK.out)
      have HE : Hid (St B sz (o ++ cs) [] (w2.setCell ⟨B + 2, 0, none⟩ .nilIface)) := hend.1
      have HF := Lib.hid hend.2
      clear hend
      by_cases hcc : c = m
      · go_wp2_with fail
        go_roundw
        case rel => exact Or.inr ⟨_, _, rfl, by go_num, HE.out, HF.out⟩
        case measure => simp [lenOf]; omega
      · go_wp2_with fail
        go_roundw
        case rel => exact Or.inr ⟨_, _, rfl, by go_num, HE.out, HF.out⟩
        case measure => simp [lenOf]; omega
    · obtain ⟨-, hq2, -, -⟩ := id HW.out
      have d0 : wr.cell? ⟨B + 2, 0, none⟩ = some .nilIface := by rw [Lib.cell_of_heap hq2]; rfl
      have d1 : wr.cell? ⟨B + 2, 1, none⟩ = some (.slice (some ⟨B + 1, 0, none⟩) sz sz) := by rw [Lib.cell_of_heap hq2]; rfl
      have d2 : wr.cell? ⟨B + 2, 2, none⟩ = some (.int .i64 0) := by rw [Lib.cell_of_heap hq2]; rfl
      have g2 : wr.frozen? ⟨B + 2, 2, none⟩ = false := Lib.frozen_of_heap hq2 2
      clear c0 c1 c2 c3 hq hq2
      have hcp : ∀ k, (Builtin.copy_ #[22, 22] 3 #[.slice (some ⟨B + 1, 0, none⟩) sz sz, .slice ao 0 c']).run Tryd.prog (wr.drewN k) = .ok (.int .i64 0) (wr.drewN k) :=
        fun k => run_copy_none (P := Tryd.prog) (wr.drewN k) 22 22 3 5 _ ao sz sz 0 c' Tryd.underlying22 size5 (by simp)
      have hge : ¬ (sz : Int) < 0 := by omega
      go_wp2_with (go_at_call 32; refine (avail_any (B + 2) _ sz sz 0 _ (by exact d1) (by exact d2) (by omega) hs).mono ?_; rintro e w' ⟨rfl, k, rfl⟩)
      go_region
      go_wp2
      go_ret2
      exact ⟨rfl, zero_end (HW.out.drewN (k + 1)), (below_drewN hb (k + 1)).setCell (p := ⟨B + 2, 2, none⟩) (show B ≤ B + 2 by omega) _⟩
end Go.Proofs.Qxb6608669aDoor
