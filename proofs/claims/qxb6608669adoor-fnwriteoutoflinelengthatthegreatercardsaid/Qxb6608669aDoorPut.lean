/-
  bufio.Writer.Write (28): p in the writer's own row; p that fits into an empty writer.
-/
import Derived.Test.Qxb6608669aDoorBytewise
namespace Go.Proofs.Qxb6608669aDoor
open Go.RowKit Go.Deep

theorem setRow_self {w : World} {g : Nat} {c : Array Value} {t : TypeId} (h : w.heap[g]? = some (.cells c t (0, 0))) : w.setRow g c = w := by
  have hh : (w.setRow g c).heap = w.heap := Array.ext_getElem? fun i => by
    by_cases hi : i = g
    · subst hi; rw [setRow_heap w i c c t (0, 0) h, h]
    · rw [setRow_other _ _ _ _ hi]
  show { w with heap := (w.setRow g c).heap } = w
  rw [hh]

theorem Out.setRow {b lo : Nat} {o : List UInt8} {w : World} (h : Out b lo o w) {k : Nat} (hk : k < lo) (hb : k ≠ b) (cs : Array Value) : Out b lo o (w.setRow k cs) := by
  obtain ⟨lr, x, hbk, hc⟩ := h
  refine ⟨lr, x, (setRow_other _ _ _ _ (Ne.symm hb)).trans hbk, ?_⟩
  rcases hc with hc | ⟨g, cap, cur, h1, h2, h3, h4⟩
  · exact Or.inl hc
  · exact Or.inr ⟨g, cap, cur, h1, h2, (setRow_other _ _ _ _ (show g ≠ k by omega)).trans h3, h4⟩

theorem below_setRow {B : Nat} {a w : World} (h : Below B a w) {g : Nat} (hg : B ≤ g) (cs : Array Value) : Below B a (w.setRow g cs) :=
  h.trans ⟨rfl, rfl, rfl, by simp [World.setRow], fun k hk => setRow_other _ _ _ _ (by omega)⟩

theorem count_end {B sz n : Nat} {o l : List UInt8} {v : Value} {rest : List Value} {w : World} (ho : Out B (B + 3) o w)
    (hq : w.heap[B + 2]? = some (.cells #[.nilIface, .slice (some ⟨B + 1, 0, none⟩) sz sz, v, .iface 38 (.pointer (some ⟨B, 0, none⟩))] 59 (0, 0)))
    (hr : w.heap[B + 1]? = some (.cells (Lib.byteCells l ++ rest).toArray 5 (0, 0))) (hn : l.length = n) (hsz : n + rest.length = sz) (hlo : B + 3 ≤ w.heap.size) :
    St B sz o l (w.setCell ⟨B + 2, 2, none⟩ (.int .i64 n)) := by
  subst hn
  refine ⟨ho.setOther (by omega) (by omega) _ _, blk_set hq 2 _, ⟨rest, ?_, hsz⟩, ?_⟩
  · exact (blk_setCell_other _ _ _ _ (by simp)).trans hr
  · rw [nblk_setCell]; exact hlo

-- Write, where p lies already in the writer's own row, right behind what it holds.
set_option maxHeartbeats 4000000 in
set_option maxRecDepth 10000 in
theorem write_alias (B sz : Nat) (o bb cs : List UInt8) (n m c : Nat) (rest : List Value) (w : World) (ho : Out B (B + 3) o w)
    (hq : w.heap[B + 2]? = some (.cells #[.nilIface, .slice (some ⟨B + 1, 0, none⟩) sz sz, .int .i64 n, .iface 38 (.pointer (some ⟨B, 0, none⟩))] 59 (0, 0)))
    (hr : w.heap[B + 1]? = some (.cells (Lib.byteCells bb ++ (Lib.byteCells cs ++ rest)).toArray 5 (0, 0))) (hn : bb.length = n) (hm : cs.length = m) (hm1 : 1 ≤ m) (hsz : n + (m + rest.length) = sz) (hs : sz ≤ 65536) (hlo : B + 3 ≤ w.heap.size) :
    Calls Tryd.prog 28 #[.pointer (some ⟨B + 2, 0, none⟩), .slice (some ⟨B + 1, n, none⟩) m c] w fun e w' => e = .returned (.tuple #[.int .i64 m, .nilIface]) ∧ St B sz o (bb ++ cs) w' ∧ Below B w w' := by
  have c0 : w.cell? ⟨B + 2, 0, none⟩ = some .nilIface := by rw [Lib.cell_of_heap hq]; rfl
  have c1 : w.cell? ⟨B + 2, 1, none⟩ = some (.slice (some ⟨B + 1, 0, none⟩) sz sz) := by rw [Lib.cell_of_heap hq]; rfl
  have c2 : w.cell? ⟨B + 2, 2, none⟩ = some (.int .i64 n) := by rw [Lib.cell_of_heap hq]; rfl
  have f2 : w.frozen? ⟨B + 2, 2, none⟩ = false := Lib.frozen_of_heap hq 2
  have hnn : ∀ w, (binOp .neq 41 .nilIface .nilIface).run Tryd.prog w = .ok (.bool false) w := fun w => Lib.run_neq_nil_nil w Tryd.underlying41
  have hsrc : ∀ j v, (Lib.byteCells cs)[j]? = some v → w.cell? ((⟨B + 1, n, none⟩ : Addr).add j) = some v := by
    intro j v hj
    rw [Lib.addr_add, Lib.cell_of_heap hr]
    have hlt : j < (Lib.byteCells cs).length := (List.getElem?_eq_some_iff.1 hj).1
    simp only [List.getElem?_toArray]
    rw [List.getElem?_append_right (by rw [Lib.byteCells_length, hn]; omega), Lib.byteCells_length, hn, show n + j - n = j from by omega, List.getElem?_append_left hlt]
    exact hj
  have hcp : ∀ k, (Builtin.copy_ #[22, 22] 3 #[.slice (some ⟨B + 1, n, none⟩) (sz - n) (sz - n), .slice (some ⟨B + 1, n, none⟩) m c]).run Tryd.prog (w.drewN k) = .ok (.int .i64 m) (w.drewN k) := by
    intro k
    have h := run_copy_row (P := Tryd.prog) (w.drewN k) 22 22 3 5 (B + 1) n (sz - n) (sz - n) ⟨B + 1, n, none⟩ m c _ 5 (Lib.byteCells cs) Tryd.underlying22 size5 hr (by rw [Lib.byteCells_length, hm]; exact (Nat.min_eq_left (by omega)).symm) hsrc (by simp only [List.size_toArray, List.length_append, Lib.byteCells_length]; omega) (Lib.byteCells_one cs)
    rw [Lib.byteCells_length, hm] at h
    rw [h]
    have he : ((Lib.byteCells bb ++ (Lib.byteCells cs ++ rest)).toArray.toList.take n ++ Lib.byteCells cs ++ (Lib.byteCells bb ++ (Lib.byteCells cs ++ rest)).toArray.toList.drop (n + m)) = Lib.byteCells bb ++ (Lib.byteCells cs ++ rest) := by
      have e1 : (Lib.byteCells bb).length = n := by rw [Lib.byteCells_length, hn]
      have e2 : (Lib.byteCells cs).length = m := by rw [Lib.byteCells_length, hm]
      rw [← e1, ← e2]
      simp
    rw [he, setRow_self (w := w.drewN k) hr]
    rfl
  have HR : Hid (w.heap[B + 1]? = some (.cells (Lib.byteCells bb ++ (Lib.byteCells cs ++ rest)).toArray 5 (0, 0))) := hr
  have HO : Hid (Out B (B + 3) o w) := ho
  clear hr ho hsrc
  have hgt : ¬ (sz : Int) - n < m := by omega
  have hne : ¬ sz = n := by omega
  go_enter Tryd.func28, Tryd.ntmps28
  go_wp2
  go_loopw [1, 4, 6] (fun p nn _ wr => p = .slice (some ⟨B + 1, n, none⟩) m c ∧ nn = .int .i64 0 ∧ ∃ k, wr = w.drewN k) (fun _ _ _ _ => 0)
  case atStart => exact ⟨rfl, rfl, 0, rfl⟩
  case round =>
    obtain ⟨rfl, rfl, k', rfl⟩ := hrel
    go_wp2_with (go_at_call 32; refine (avail_any (B + 2) _ sz sz n _ (by exact c1) (by exact c2) (by omega) hs).mono ?_; rintro e w' ⟨rfl, k, rfl⟩)
    go_region
    go_wp2
    go_ret2
    have hend := count_end (w := w.drewN (k' + k + 1)) (n := n + m) (l := bb ++ cs) (rest := rest) HO.out hq (by rw [Lib.byteCells_append, List.append_assoc]; exact HR.out) (by rw [List.length_append]; omega) (by omega) hlo
    rw [Int.natCast_add] at hend
    exact ⟨rfl, hend, (below_drewN (Below.refl B w) _).setCell (p := ⟨B + 2, 2, none⟩) (show B ≤ B + 2 by omega) _⟩

-- Write into an empty writer, where p fits: 'hcp' says what copy does.
set_option maxHeartbeats 4000000 in
set_option maxRecDepth 10000 in
theorem write_fit (B sz : Nat) (o cs : List UInt8) (m c : Nat) (ao : Option Addr) (rest : List Value) (w : World) (ho : Out B (B + 3) o w)
    (hq : w.heap[B + 2]? = some (.cells #[.nilIface, .slice (some ⟨B + 1, 0, none⟩) sz sz, .int .i64 0, .iface 38 (.pointer (some ⟨B, 0, none⟩))] 59 (0, 0)))
    (hcp : ∀ k, (Builtin.copy_ #[22, 22] 3 #[.slice (some ⟨B + 1, 0, none⟩) sz sz, .slice ao m c]).run Tryd.prog (w.drewN k) = .ok (.int .i64 m) ((w.drewN k).setRow (B + 1) (Lib.byteCells cs ++ rest).toArray))
    (hr : ∃ cur, w.heap[B + 1]? = some (.cells cur 5 (0, 0)))
    (hm : cs.length = m) (hsz : m + rest.length = sz) (hs : sz ≤ 65536) (hlo : B + 3 ≤ w.heap.size) :
    Calls Tryd.prog 28 #[.pointer (some ⟨B + 2, 0, none⟩), .slice ao m c] w fun e w' => e = .returned (.tuple #[.int .i64 m, .nilIface]) ∧ St B sz o cs w' ∧ Below B w w' := by
  have c0 : w.cell? ⟨B + 2, 0, none⟩ = some .nilIface := by rw [Lib.cell_of_heap hq]; rfl
  have c1 : w.cell? ⟨B + 2, 1, none⟩ = some (.slice (some ⟨B + 1, 0, none⟩) sz sz) := by rw [Lib.cell_of_heap hq]; rfl
  have c2 : w.cell? ⟨B + 2, 2, none⟩ = some (.int .i64 0) := by rw [Lib.cell_of_heap hq]; rfl
  have hq2 : ∀ k, ((w.drewN k).setRow (B + 1) (Lib.byteCells cs ++ rest).toArray).heap[B + 2]? = some (.cells #[.nilIface, .slice (some ⟨B + 1, 0, none⟩) sz sz, .int .i64 0, .iface 38 (.pointer (some ⟨B, 0, none⟩))] 59 (0, 0)) :=
    fun k => (setRow_other _ _ _ _ (by omega)).trans hq
  have d2 : ∀ k, ((w.drewN k).setRow (B + 1) (Lib.byteCells cs ++ rest).toArray).cell? ⟨B + 2, 2, none⟩ = some (.int .i64 0) := fun k => by rw [Lib.cell_of_heap (hq2 k)]; rfl
  have g2 : ∀ k, ((w.drewN k).setRow (B + 1) (Lib.byteCells cs ++ rest).toArray).frozen? ⟨B + 2, 2, none⟩ = false := fun k => Lib.frozen_of_heap (hq2 k) 2
  have HQ2 := Lib.hid hq2
  clear hq2
  have hnn : ∀ w, (binOp .neq 41 .nilIface .nilIface).run Tryd.prog w = .ok (.bool false) w := fun w => Lib.run_neq_nil_nil w Tryd.underlying41
  have HO : Hid (Out B (B + 3) o w) := ho
  clear ho
  have hgt : ¬ (sz : Int) < m := by omega
  go_enter Tryd.func28, Tryd.ntmps28
  go_wp2
  go_loopw [1, 4, 6] (fun p nn _ wr => p = .slice ao m c ∧ nn = .int .i64 0 ∧ ∃ k, wr = w.drewN k) (fun _ _ _ _ => 0)
  case atStart => exact ⟨rfl, rfl, 0, rfl⟩
  case round =>
    obtain ⟨rfl, rfl, k', rfl⟩ := hrel
    go_wp2_with (go_at_call 32; refine (avail_any (B + 2) _ sz sz 0 _ (by exact c1) (by exact c2) (by omega) hs).mono ?_; rintro e w' ⟨rfl, k, rfl⟩)
    go_region
    go_wp2
    go_ret2
    obtain ⟨cur, hr⟩ := hr
    have hend := count_end (w := (w.drewN (k' + k + 1)).setRow (B + 1) (Lib.byteCells cs ++ rest).toArray) (n := m) (l := cs) (rest := rest) ((HO.out.drewN (k' + k + 1)).setRow (by omega) (by omega) _) (HQ2.out _)
      (setRow_heap (w.drewN (k' + k + 1)) _ cur _ 5 (0, 0) hr) hm hsz (by simpa [World.setRow] using hlo)
    exact ⟨rfl, hend, (below_setRow (below_drewN (Below.refl B w) _) (by omega) _).setCell (p := ⟨B + 2, 2, none⟩) (show B ≤ B + 2 by omega) _⟩

end Go.Proofs.Qxb6608669aDoor
