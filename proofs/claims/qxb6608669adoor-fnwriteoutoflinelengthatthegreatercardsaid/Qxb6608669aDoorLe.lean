/-
  encoding/binary: PutUint16 (53), PutUint32 (56), PutUint64 (54) into a row of bytes.
-/
import Derived.Test.Qxb6608669aDoorDirect
namespace Go.Proofs.Qxb6608669aDoor
open Go.RowKit Go.Deep

/-- Bytes laid one behind the other into a row. -/
def putL (L : Array Value) (i : Nat) : List Int → Array Value
  | [] => L
  | b :: bs => putL (L.setIfInBounds i (.int .u8 b)) (i + 1) bs


set_option maxHeartbeats 2000000 in
theorem put16_any (r i len cap : Nat) (v : Int) (L : Array Value) (w : World) (hr : w.heap[r]? = some (.cells L 5 (0, 0))) (hi : i + 2 ≤ L.size) (hl : 2 ≤ len) :
    Calls Tryd.prog 53 #[.agg #[], .slice (some ⟨r, i, none⟩) len cap, .int .u16 v] w fun e w' => e = .returned (.tuple #[]) ∧ w'.heap[r]? = some (.cells (putL L i [v % 256, v / 256 % 256]) 5 (0, 0)) ∧ Keep w.heap.size r w w' := by
  obtain ⟨y0, h0⟩ : ∃ y, w.cell? ⟨r, i, none⟩ = some y := ⟨_, by rw [Lib.cell_of_heap hr]; exact Array.getElem?_eq_getElem (by omega)⟩
  have f0 := Lib.frozen_of_heap hr (i)
  obtain ⟨y1, h1⟩ : ∃ y, w.cell? ⟨r, i + 1, none⟩ = some y := ⟨_, by rw [Lib.cell_of_heap hr]; exact Array.getElem?_eq_getElem (by omega)⟩
  have f1 := Lib.frozen_of_heap hr (i + 1)
  have hlt := Lib.lt_of_heap hr
  go_enter Tryd.func53, Tryd.ntmps53
  go_wp2
  go_end0
  have hk := blk_set (blk_set hr (i) (.int .u8 (v % 256))) (i + 1) (.int .u8 (v / 256 % 256))
  refine ⟨rfl, (RowKit.Below.heap_alloc _ _ r (by rw [nblk_setCell, nblk_setCell]; exact hlt)).trans hk, ?_⟩
  exact ((Keep.setCell _ _ _).trans (Keep.setCell _ _ _)).trans (Keep.alloc _ _ (by rw [nblk_setCell, nblk_setCell]; exact Nat.le_refl _))

set_option maxHeartbeats 2000000 in
theorem put32_any (r i len cap : Nat) (v : Int) (L : Array Value) (w : World) (hr : w.heap[r]? = some (.cells L 5 (0, 0))) (hi : i + 4 ≤ L.size) (hl : 4 ≤ len) :
    Calls Tryd.prog 56 #[.agg #[], .slice (some ⟨r, i, none⟩) len cap, .int .u32 v] w fun e w' => e = .returned (.tuple #[]) ∧ w'.heap[r]? = some (.cells (putL L i [v % 256, v / 256 % 256, v / 65536 % 256, v / 16777216 % 256]) 5 (0, 0)) ∧ Keep w.heap.size r w w' := by
  obtain ⟨y0, h0⟩ : ∃ y, w.cell? ⟨r, i, none⟩ = some y := ⟨_, by rw [Lib.cell_of_heap hr]; exact Array.getElem?_eq_getElem (by omega)⟩
  have f0 := Lib.frozen_of_heap hr (i)
  obtain ⟨y1, h1⟩ : ∃ y, w.cell? ⟨r, i + 1, none⟩ = some y := ⟨_, by rw [Lib.cell_of_heap hr]; exact Array.getElem?_eq_getElem (by omega)⟩
  have f1 := Lib.frozen_of_heap hr (i + 1)
  obtain ⟨y2, h2⟩ : ∃ y, w.cell? ⟨r, i + 2, none⟩ = some y := ⟨_, by rw [Lib.cell_of_heap hr]; exact Array.getElem?_eq_getElem (by omega)⟩
  have f2 := Lib.frozen_of_heap hr (i + 2)
  obtain ⟨y3, h3⟩ : ∃ y, w.cell? ⟨r, i + 3, none⟩ = some y := ⟨_, by rw [Lib.cell_of_heap hr]; exact Array.getElem?_eq_getElem (by omega)⟩
  have f3 := Lib.frozen_of_heap hr (i + 3)
  have hlt := Lib.lt_of_heap hr
  go_enter Tryd.func56, Tryd.ntmps56
  go_wp2
  go_end0
  have hk := blk_set (blk_set (blk_set (blk_set hr (i) (.int .u8 (v % 256))) (i + 1) (.int .u8 (v / 256 % 256))) (i + 2) (.int .u8 (v / 65536 % 256))) (i + 3) (.int .u8 (v / 16777216 % 256))
  refine ⟨rfl, (RowKit.Below.heap_alloc _ _ r (by rw [nblk_setCell, nblk_setCell, nblk_setCell, nblk_setCell]; exact hlt)).trans hk, ?_⟩
  exact ((((Keep.setCell _ _ _).trans (Keep.setCell _ _ _)).trans (Keep.setCell _ _ _)).trans (Keep.setCell _ _ _)).trans (Keep.alloc _ _ (by rw [nblk_setCell, nblk_setCell, nblk_setCell, nblk_setCell]; exact Nat.le_refl _))

set_option maxHeartbeats 2000000 in
theorem put64_any (r i len cap : Nat) (v : Int) (L : Array Value) (w : World) (hr : w.heap[r]? = some (.cells L 5 (0, 0))) (hi : i + 8 ≤ L.size) (hl : 8 ≤ len) :
    Calls Tryd.prog 54 #[.agg #[], .slice (some ⟨r, i, none⟩) len cap, .int .u64 v] w fun e w' => e = .returned (.tuple #[]) ∧ w'.heap[r]? = some (.cells (putL L i [v % 256, v / 256 % 256, v / 65536 % 256, v / 16777216 % 256, v / 4294967296 % 256, v / 1099511627776 % 256, v / 281474976710656 % 256, v / 72057594037927936 % 256]) 5 (0, 0)) ∧ Keep w.heap.size r w w' := by
  obtain ⟨y0, h0⟩ : ∃ y, w.cell? ⟨r, i, none⟩ = some y := ⟨_, by rw [Lib.cell_of_heap hr]; exact Array.getElem?_eq_getElem (by omega)⟩
  have f0 := Lib.frozen_of_heap hr (i)
  obtain ⟨y1, h1⟩ : ∃ y, w.cell? ⟨r, i + 1, none⟩ = some y := ⟨_, by rw [Lib.cell_of_heap hr]; exact Array.getElem?_eq_getElem (by omega)⟩
  have f1 := Lib.frozen_of_heap hr (i + 1)
  obtain ⟨y2, h2⟩ : ∃ y, w.cell? ⟨r, i + 2, none⟩ = some y := ⟨_, by rw [Lib.cell_of_heap hr]; exact Array.getElem?_eq_getElem (by omega)⟩
  have f2 := Lib.frozen_of_heap hr (i + 2)
  obtain ⟨y3, h3⟩ : ∃ y, w.cell? ⟨r, i + 3, none⟩ = some y := ⟨_, by rw [Lib.cell_of_heap hr]; exact Array.getElem?_eq_getElem (by omega)⟩
  have f3 := Lib.frozen_of_heap hr (i + 3)
  obtain ⟨y4, h4⟩ : ∃ y, w.cell? ⟨r, i + 4, none⟩ = some y := ⟨_, by rw [Lib.cell_of_heap hr]; exact Array.getElem?_eq_getElem (by omega)⟩
  have f4 := Lib.frozen_of_heap hr (i + 4)
  obtain ⟨y5, h5⟩ : ∃ y, w.cell? ⟨r, i + 5, none⟩ = some y := ⟨_, by rw [Lib.cell_of_heap hr]; exact Array.getElem?_eq_getElem (by omega)⟩
  have f5 := Lib.frozen_of_heap hr (i + 5)
  obtain ⟨y6, h6⟩ : ∃ y, w.cell? ⟨r, i + 6, none⟩ = some y := ⟨_, by rw [Lib.cell_of_heap hr]; exact Array.getElem?_eq_getElem (by omega)⟩
  have f6 := Lib.frozen_of_heap hr (i + 6)
  obtain ⟨y7, h7⟩ : ∃ y, w.cell? ⟨r, i + 7, none⟩ = some y := ⟨_, by rw [Lib.cell_of_heap hr]; exact Array.getElem?_eq_getElem (by omega)⟩
  have f7 := Lib.frozen_of_heap hr (i + 7)
  have hlt := Lib.lt_of_heap hr
  go_enter Tryd.func54, Tryd.ntmps54
  go_wp2
  go_end0
  have hk := blk_set (blk_set (blk_set (blk_set (blk_set (blk_set (blk_set (blk_set hr (i) (.int .u8 (v % 256))) (i + 1) (.int .u8 (v / 256 % 256))) (i + 2) (.int .u8 (v / 65536 % 256))) (i + 3) (.int .u8 (v / 16777216 % 256))) (i + 4) (.int .u8 (v / 4294967296 % 256))) (i + 5) (.int .u8 (v / 1099511627776 % 256))) (i + 6) (.int .u8 (v / 281474976710656 % 256))) (i + 7) (.int .u8 (v / 72057594037927936 % 256))
  refine ⟨rfl, (RowKit.Below.heap_alloc _ _ r (by rw [nblk_setCell, nblk_setCell, nblk_setCell, nblk_setCell, nblk_setCell, nblk_setCell, nblk_setCell, nblk_setCell]; exact hlt)).trans hk, ?_⟩
  exact ((((((((Keep.setCell _ _ _).trans (Keep.setCell _ _ _)).trans (Keep.setCell _ _ _)).trans (Keep.setCell _ _ _)).trans (Keep.setCell _ _ _)).trans (Keep.setCell _ _ _)).trans (Keep.setCell _ _ _)).trans (Keep.setCell _ _ _)).trans (Keep.alloc _ _ (by rw [nblk_setCell, nblk_setCell, nblk_setCell, nblk_setCell, nblk_setCell, nblk_setCell, nblk_setCell, nblk_setCell]; exact Nat.le_refl _))
end Go.Proofs.Qxb6608669aDoor
