/-
  bytes.growSlice (59) and its deferred closure (60) at this dump: after the shelf's proof of the same text over any program.
-/
import Derived.Test.Qxb6608669aDoorRows
import Derived.Lib.ByteType
import Derived.Lib.Walk
import Derived.Lib.Buffer
import Derived.Lib.AppendZeros
import Derived.Lib.Hide
import Derived.Laws.CopyRow
import Derived.Laws.IdiomCopy
import Derived.WalkKit
import Derived.OwnWalk
import Derived.Defers
import Derived.Recover
namespace Go.Proofs.Qxb6608669aDoor
open Go.RowKit

theorem info5 : (Tryd.prog.info? 5).map (fun i => (i.zero, i.size, i.bytes)) = some (some (.int .u8 0), 1, 1) := by kernel_rfl
theorem size5 : (Tryd.prog.info? 5).map (·.size) = some 1 := by kernel_rfl

theorem catch_idle (w : World) :
    CallsD Tryd.prog 60 #[] .returning w fun e u' w' => e = .returned (.tuple #[]) ∧ u' = .returning ∧ w' = w := by
  have hnn : ∀ w, (binOp .neq 20 .nilIface .nilIface).run Tryd.prog w = .ok (.bool false) w := fun w => Lib.run_neq_nil_nil w Tryd.underlying20
  refine callsD_of_wpS Tryd.func60 rfl fun c₀ cs hu => ?_
  apply wpS_seq
  apply wpS_region
  simp [wpOpsS, go_sem, recoverD, hu, hnn, Tryd.ntmps60, Exit.thenS]
  refine wpS_cond (t := false) (by simp [Act.eval, Array.replicate]) ?_
  simp only [Bool.false_eq_true, if_false]
  refine wpS_of_wp (wp_skip ?_)
  cases c₀
  simp_all [bodyPostS, results]

set_option maxHeartbeats 6400000 in
set_option maxRecDepth 100000 in
theorem growSlice_row (g l c n : Nat) (cur : Array Value) (w : World) (hg : w.heap[g]? = some (.cells cur 5 (0, 0))) (hcs : cur.size = c) (hlc : l ≤ c) (hn : 1 ≤ n)
    (hlim : l + n ≤ 140737488355328) (hc2 : c ≤ 140737488355328) (h1 : ∀ v ∈ cur.toList.take l, v.oneCell' = true) :
    Calls Tryd.prog 59 #[.slice (some ⟨g, 0, none⟩) l c, .int .i64 n] w fun e w' => ∃ cap2 cells, e = .returned (.slice (some ⟨w.heap.size, 0, none⟩) l cap2) ∧ w'.heap[w.heap.size]? = some (.cells cells 5 (0, 0)) ∧
      cells.size = cap2 ∧ cells.toList.take l = cur.toList.take l ∧ l + n ≤ cap2 ∧ cap2 ≤ maxLen ∧ Below w.heap.size w w' := by
  obtain ⟨i0, hi, hz0, hz1, hz2⟩ := info_parts info5
  have hgl := Lib.lt_of_heap hg
  have hxl : (cur.toList.take l).length = l := by rw [List.length_take, Array.length_toList]; omega
  by_cases hC : l + n < 2 * c
  · have happ := Lib.run_append_nil_zeros (P := Tryd.prog) w 22 3 22 5 i0 (.int .u8 0) .i64 .i64 Tryd.underlying22 Tryd.underlying3 hi hz0 (2 * c) (by omega) (by omega) (by omega) (by rw [hz2]; omega)
    rw [show (((2 * c : Nat)) : Int) = 2 * (c : Int) by omega] at happ
    generalize hcap : grownCap w (2 * c) 0 5 = cap2 at happ
    have hcapge : 2 * c ≤ cap2 := by rw [← hcap]; exact grownCap_ge w _ 0 5
    have hcaple : cap2 ≤ maxLen := by rw [← hcap]; exact grownCap_le_maxLen w _ 0 5 (by unfold maxLen; omega)
    generalize hZ : (Builtin.zeroCells (Value.int .u8 0).cells (2 * c) ++ Builtin.zeroCells (Value.int .u8 0).cells (cap2 - (2 * c))) = Z at happ
    have hZs : Z.size = cap2 := by rw [← hZ]; simp [size_zeroCells, Value.cells]; omega
    clear hcap hZ
    have hg1 : (w.alloc (.cells Z 5)).drew.heap[g]? = some (.cells cur 5 (0, 0)) := by show (w.alloc (.cells Z 5)).heap[g]? = _; rw [RowKit.Below.heap_alloc w _ g hgl]; exact hg
    have hcopy := run_copy_row (P := Tryd.prog) (w.alloc (.cells Z 5)).drew 22 22 3 5 w.heap.size 0 (2 * c) cap2 ⟨g, 0, none⟩ l c Z 5 (cur.toList.take l) Tryd.underlying22 size5 (heap_alloc_new w _) (by rw [hxl]; exact (Nat.min_eq_left (by omega)).symm) (Lib.cells_of_row hg1 l) (by rw [hxl]; omega) h1
    rw [hxl] at hcopy
    generalize hY : (Z.toList.take 0 ++ cur.toList.take l ++ Z.toList.drop (0 + l)).toArray = Y at hcopy
    go_enter_defers Tryd.func59, Tryd.ntmps59
    go_wp2_with (at_builtin; refine Lib.wpList_append_run _ rfl _ _ _ _ rfl _ _ rfl rfl _ _ happ ?_)
    refine leaves_cons (f := 60) (args := #[]) (by simp) (by simp [go_sem]) ?_
    refine (catch_idle _).mono ?_
    rintro e u' w'' ⟨rfl, rfl, rfl⟩
    refine ⟨_, results_tmp rfl _ _ _, ?_⟩
    have hYl : Y.toList = cur.toList.take l ++ Z.toList.drop l := by rw [← hY]; simp
    refine ⟨cap2, Y, rfl, setRow_heap _ _ Z Y 5 (0, 0) (heap_alloc_new w _), ?_, ?_, by omega, hcaple, ?_⟩
    · have : Y.toList.length = cap2 := by rw [hYl, List.length_append, hxl, List.length_drop, Array.length_toList, hZs]; omega
      simpa using this
    · rw [hYl, List.take_append_of_le_length (by rw [hxl]; exact Nat.le_refl _), List.take_of_length_le (by rw [hxl]; exact Nat.le_refl _)]
    · exact ⟨rfl, rfl, rfl, by simp, fun k hk => by rw [setRow_other _ _ _ _ (by omega)]; exact Below.heap_alloc w _ k hk⟩
  · have happ := Lib.run_append_nil_zeros (P := Tryd.prog) w 22 3 22 5 i0 (.int .u8 0) .i64 .i64 Tryd.underlying22 Tryd.underlying3 hi hz0 (l + n) (by omega) (by omega) (by omega) (by rw [hz2]; omega)
    rw [show (((l + n : Nat)) : Int) = (l : Int) + (n : Int) by omega] at happ
    generalize hcap : grownCap w (l + n) 0 5 = cap2 at happ
    have hcapge : l + n ≤ cap2 := by rw [← hcap]; exact grownCap_ge w _ 0 5
    have hcaple : cap2 ≤ maxLen := by rw [← hcap]; exact grownCap_le_maxLen w _ 0 5 (by unfold maxLen; omega)
    generalize hZ : (Builtin.zeroCells (Value.int .u8 0).cells (l + n) ++ Builtin.zeroCells (Value.int .u8 0).cells (cap2 - (l + n))) = Z at happ
    have hZs : Z.size = cap2 := by rw [← hZ]; simp [size_zeroCells, Value.cells]; omega
    clear hcap hZ
    have hg1 : (w.alloc (.cells Z 5)).drew.heap[g]? = some (.cells cur 5 (0, 0)) := by show (w.alloc (.cells Z 5)).heap[g]? = _; rw [RowKit.Below.heap_alloc w _ g hgl]; exact hg
    have hcopy := run_copy_row (P := Tryd.prog) (w.alloc (.cells Z 5)).drew 22 22 3 5 w.heap.size 0 (l + n) cap2 ⟨g, 0, none⟩ l c Z 5 (cur.toList.take l) Tryd.underlying22 size5 (heap_alloc_new w _) (by rw [hxl]; exact (Nat.min_eq_left (by omega)).symm) (Lib.cells_of_row hg1 l) (by rw [hxl]; omega) h1
    rw [hxl] at hcopy
    generalize hY : (Z.toList.take 0 ++ cur.toList.take l ++ Z.toList.drop (0 + l)).toArray = Y at hcopy
    go_enter_defers Tryd.func59, Tryd.ntmps59
    go_wp2_with (at_builtin; refine Lib.wpList_append_run _ rfl _ _ _ _ rfl _ _ rfl rfl _ _ happ ?_)
    refine leaves_cons (f := 60) (args := #[]) (by simp) (by simp [go_sem]) ?_
    refine (catch_idle _).mono ?_
    rintro e u' w'' ⟨rfl, rfl, rfl⟩
    refine ⟨_, results_tmp rfl _ _ _, ?_⟩
    have hYl : Y.toList = cur.toList.take l ++ Z.toList.drop l := by rw [← hY]; simp
    refine ⟨cap2, Y, rfl, setRow_heap _ _ Z Y 5 (0, 0) (heap_alloc_new w _), ?_, ?_, by omega, hcaple, ?_⟩
    · have : Y.toList.length = cap2 := by rw [hYl, List.length_append, hxl, List.length_drop, Array.length_toList, hZs]; omega
      simpa using this
    · rw [hYl, List.take_append_of_le_length (by rw [hxl]; exact Nat.le_refl _), List.take_of_length_le (by rw [hxl]; exact Nat.le_refl _)]
    · exact ⟨rfl, rfl, rfl, by simp, fun k hk => by rw [setRow_other _ _ _ _ (by omega)]; exact Below.heap_alloc w _ k hk⟩

set_option maxHeartbeats 6400000 in
set_option maxRecDepth 100000 in
theorem growSlice_nil (n : Nat) (w : World) (hn : 1 ≤ n) (hlim : n ≤ 140737488355328) :
    Calls Tryd.prog 59 #[.slice none 0 0, .int .i64 n] w fun e w' => ∃ cap2 cells, e = .returned (.slice (some ⟨w.heap.size, 0, none⟩) 0 cap2) ∧ w'.heap[w.heap.size]? = some (.cells cells 5 (0, 0)) ∧
      cells.size = cap2 ∧ n ≤ cap2 ∧ cap2 ≤ maxLen ∧ Below w.heap.size w w' := by
  obtain ⟨i0, hi, hz0, hz1, hz2⟩ := info_parts info5
  have happ := Lib.run_append_nil_zeros (P := Tryd.prog) w 22 3 22 5 i0 (.int .u8 0) .i64 .i64 Tryd.underlying22 Tryd.underlying3 hi hz0 n (by omega) (by omega) (by omega) (by rw [hz2]; omega)
  generalize hcap : grownCap w n 0 5 = cap2 at happ
  have hcapge : n ≤ cap2 := by rw [← hcap]; exact grownCap_ge w _ 0 5
  have hcaple : cap2 ≤ maxLen := by rw [← hcap]; exact grownCap_le_maxLen w _ 0 5 (by unfold maxLen; omega)
  generalize hZ : (Builtin.zeroCells (Value.int .u8 0).cells n ++ Builtin.zeroCells (Value.int .u8 0).cells (cap2 - n)) = Z at happ
  have hZs : Z.size = cap2 := by rw [← hZ]; simp [size_zeroCells, Value.cells]; omega
  clear hcap hZ
  have hcopy := run_copy_nil (P := Tryd.prog) (w.alloc (.cells Z 5)).drew 22 22 3 5 ⟨w.heap.size, 0, none⟩ n cap2 Tryd.underlying22 (by rw [hi]; rfl)
  go_enter_defers Tryd.func59, Tryd.ntmps59
  go_wp2_with (at_builtin; refine Lib.wpList_append_run _ rfl _ _ _ _ rfl _ _ rfl rfl _ _ happ ?_)
  refine leaves_cons (f := 60) (args := #[]) (by simp) (by simp [go_sem]) ?_
  refine (catch_idle _).mono ?_
  rintro e u' w'' ⟨rfl, rfl, rfl⟩
  refine ⟨_, results_tmp rfl _ _ _, ?_⟩
  exact ⟨cap2, Z, rfl, heap_alloc_new w _, hZs, hcapge, hcaple, ⟨rfl, rfl, rfl, by simp, fun k hk => Below.heap_alloc w _ k hk⟩⟩
end Go.Proofs.Qxb6608669aDoor
