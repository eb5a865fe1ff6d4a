/-
  bufio.NewWriterSize (27) over a bytes.Buffer; (*bytes.Buffer).Bytes (25).
-/
import Derived.Test.Qxb6608669aDoorLine
import Derived.Deep.OwnRows
namespace Go.Proofs.Qxb6608669aDoor
open Go.RowKit Go.Deep

theorem assert_not (a : Addr) (w : World) : (Instr.typeAssert (.iface 38 (.pointer (some a))) 55 50 true).run Tryd.prog w = .ok (.tuple #[.pointer none, .bool false]) w := by kernel_rfl

/-- The size that NewWriterSize takes. -/
def sizeOf' (s : Int) : Nat := if s ≤ 0 then 4096 else s.toNat
theorem sizeOf'_pos (s : Int) : 1 ≤ sizeOf' s := by unfold sizeOf'; split <;> omega
theorem sizeOf'_le (s : Int) (h : s ≤ 65536) : sizeOf' s ≤ 65536 := by unfold sizeOf'; split <;> omega

/-- What NewWriterSize leaves: the row, then the Writer. -/
def newW (b sz : Nat) (w : World) : World :=
  (w.alloc (.cells (madeCells #[.int .u8 0] sz) 5 (0, 0))).alloc (.cells #[.nilIface, .slice (some ⟨w.heap.size, 0, none⟩) sz sz, .int .i64 0, .iface 38 (.pointer (some ⟨b, 0, none⟩))] 59 (0, 0))

set_option maxHeartbeats 4000000 in
set_option maxRecDepth 100000 in
theorem newWriter_le (b : Nat) (s : Int) (w : World) (h0 : s ≤ 0) :
    Calls Tryd.prog 27 #[.iface 38 (.pointer (some ⟨b, 0, none⟩)), .int .i64 s] w fun e w' => e = .returned (.pointer (some ⟨w.heap.size + 1, 0, none⟩)) ∧ newW b 4096 w = w' := by
  have hmk : ∀ w, (Instr.makeSlice 22 (.int .i64 4096) (.int .i64 4096)).run Tryd.prog w = _ := run_make_row' (P := Tryd.prog) 22 5 (.int .u8 0) 1 Tryd.underlying22 info5 rfl .i64 .i64 4096 (by omega) (by omega)
  obtain ⟨Z, hZ⟩ : ∃ Z, madeCells #[Value.int .u8 0] 4096 = Z := ⟨_, rfl⟩
  rw [hZ] at hmk
  have a1 := fun w => assert_not ⟨b, 0, none⟩ w
  go_enter Tryd.func27, Tryd.ntmps27
  go_wp2_with fail
  go_ret
  unfold newW
  rw [hZ]
  exact ⟨rfl, rfl⟩

set_option maxHeartbeats 4000000 in
set_option maxRecDepth 100000 in
theorem newWriter_gt (b n : Nat) (w : World) (h0 : 1 ≤ n) (h1 : n ≤ 65536) :
    Calls Tryd.prog 27 #[.iface 38 (.pointer (some ⟨b, 0, none⟩)), .int .i64 n] w fun e w' => e = .returned (.pointer (some ⟨w.heap.size + 1, 0, none⟩)) ∧ newW b n w = w' := by
  have hmk := run_make_row' (P := Tryd.prog) 22 5 (.int .u8 0) 1 Tryd.underlying22 info5 rfl .i64 .i64 n (by omega) (by omega)
  obtain ⟨Z, hZ⟩ : ∃ Z, madeCells #[Value.int .u8 0] n = Z := ⟨_, rfl⟩
  rw [hZ] at hmk
  have d1 : decide ((n : Int) ≤ 0) = false := decide_eq_false (by omega)
  have a1 := fun w => assert_not ⟨b, 0, none⟩ w
  go_enter Tryd.func27, Tryd.ntmps27
  go_wp2_with fail
  go_ret
  unfold newW
  rw [hZ]
  exact ⟨rfl, rfl⟩

theorem newWriter_any (b : Nat) (s : Int) (w : World) (hs : s ≤ 65536) :
    Calls Tryd.prog 27 #[.iface 38 (.pointer (some ⟨b, 0, none⟩)), .int .i64 s] w fun e w' => e = .returned (.pointer (some ⟨w.heap.size + 1, 0, none⟩)) ∧ newW b (sizeOf' s) w = w' := by
  by_cases h : s ≤ 0
  · rw [show sizeOf' s = 4096 from by unfold sizeOf'; rw [if_pos h]]
    exact newWriter_le b s w h
  · have hz : ((sizeOf' s : Nat) : Int) = s := by unfold sizeOf'; rw [if_neg h]; omega
    have := newWriter_gt b (sizeOf' s) w (sizeOf'_pos s) (sizeOf'_le s hs)
    rw [hz] at this
    exact this

/-- Bytes of a buffer that has only been written. -/
theorem bytes_any (b : Nat) (ao : Option Addr) (lr : Int) (l cap : Nat) (w : World) (hbk : w.heap[b]? = some (.cells #[.slice ao l cap, .int .i64 0, .int .i8 lr] 49 (0, 0))) (hv : ao = none ∧ l = 0 ∧ cap = 0 ∨ ∃ g, ao = some ⟨g, 0, none⟩) (hl : l ≤ cap) :
    Calls Tryd.prog 25 #[.pointer (some ⟨b, 0, none⟩)] w fun e w' => e = .returned (.slice ao l cap) ∧ ∃ k, w' = w.drewN k := by
  have c0 : w.cell? ⟨b, 0, none⟩ = some (.slice ao l cap) := by rw [Lib.cell_of_heap hbk]; rfl
  have c1 : w.cell? ⟨b, 1, none⟩ = some (.int .i64 0) := by rw [Lib.cell_of_heap hbk]; rfl
  rcases hv with ⟨rfl, rfl, rfl⟩ | ⟨g, rfl⟩
  · go_enter Tryd.func25, Tryd.ntmps25
    go_wp2
    go_quiet (fail)
    go_wp2
    go_ret
    exact ⟨rfl, _, rfl⟩
  · go_enter Tryd.func25, Tryd.ntmps25
    go_wp2
    go_quiet (fail)
    go_wp2
    go_ret
    exact ⟨rfl, _, rfl⟩
end Go.Proofs.Qxb6608669aDoor
