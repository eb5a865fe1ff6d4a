/-
  bytes.Buffer: tryGrowByReslice (49), Len (57), grow (50), with the rows told by their numbers.
-/
import Derived.Test.Qxb6608669aDoorGrow
import Derived.Lib.BufferWrite
import Derived.Deep.QuietTactic
import Derived.BigQuiet
import Derived.RegionTactic
import Derived.Deep.RegionWith
import Derived.Deep.Draws
import Derived.Deep.OwnRows
import Derived.BigCall
import Derived.BigGuard
import Derived.WalkSpells
namespace Go.Proofs.Qxb6608669aDoor
open Go.RowKit Go.Deep

/-- Below block number lo, w' is as w was, but for block b. -/
structure Keep (lo b : Nat) (w w' : World) : Prop where
  os : w'.os = w.os
  tape : w'.tape = w.tape
  output : w'.output = w.output
  size : w.heap.size ≤ w'.heap.size
  block : ∀ k, k < lo → k ≠ b → w'.heap[k]? = w.heap[k]?

theorem Keep.refl (lo b : Nat) (w : World) : Keep lo b w w := ⟨rfl, rfl, rfl, Nat.le_refl _, fun _ _ _ => rfl⟩
theorem Keep.trans {lo b : Nat} {w1 w2 w3 : World} (h : Keep lo b w1 w2) (k : Keep lo b w2 w3) : Keep lo b w1 w3 :=
  ⟨k.os.trans h.os, k.tape.trans h.tape, k.output.trans h.output, Nat.le_trans h.size k.size, fun i hi hb => (k.block i hi hb).trans (h.block i hi hb)⟩
theorem Keep.drewN {lo b : Nat} (w : World) (n : Nat) : Keep lo b w (w.drewN n) := ⟨rfl, rfl, rfl, Nat.le_refl _, fun _ _ _ => rfl⟩
theorem Keep.mono {lo lo' b : Nat} {w w' : World} (h : Keep lo b w w') (hl : lo' ≤ lo) : Keep lo' b w w' :=
  ⟨h.os, h.tape, h.output, h.size, fun k hk hb => h.block k (by omega) hb⟩
theorem Keep.setCell {lo b : Nat} (w : World) (i : Nat) (v : Value) : Keep lo b w (w.setCell ⟨b, i, none⟩ v) :=
  ⟨rfl, rfl, rfl, by rw [nblk_setCell]; exact Nat.le_refl _, fun k _ hb => blk_setCell_other _ _ _ _ hb⟩
theorem Keep.setRow {lo b : Nat} (w : World) (g : Nat) (cs : Array Value) (hg : lo ≤ g) : Keep lo b w (w.setRow g cs) :=
  ⟨rfl, rfl, rfl, by simp [World.setRow], fun k hk _ => setRow_other _ _ _ _ (by omega)⟩
theorem Keep.alloc {lo b : Nat} (w : World) (o : Obj) (h : lo ≤ w.heap.size) : Keep lo b w (w.alloc o) :=
  ⟨rfl, rfl, rfl, by simp, fun k hk _ => RowKit.Below.heap_alloc w o k (by omega)⟩
theorem Keep.below {lo b : Nat} {w w' : World} (h : Below lo w w') : Keep lo b w w' := ⟨h.os, h.tape, h.output, h.size, fun k hk _ => h.block k hk⟩

/-- A store into a block of cells. -/
theorem blk_set {w : World} {b : Nat} {c : Array Value} {t : TypeId} (hb : w.heap[b]? = some (.cells c t (0, 0))) (i : Nat) (v : Value) :
    (w.setCell ⟨b, i, none⟩ v).heap[b]? = some (.cells (c.setIfInBounds i v) t (0, 0)) := by
  simp [World.setCell, Array.getElem?_modify, hb]

/-! ### tryGrowByReslice (49), Len (57) -/
set_option maxHeartbeats 1000000 in
theorem tryGrow_none (b : Nat) (v : Option Addr) (l cap n : Nat) (w : World) (h0 : w.cell? ⟨b, 0, none⟩ = some (.slice v l cap)) (hlc : l ≤ cap) (hcm : cap ≤ 9223372036854775807) (hn : cap < l + n) :
    Calls Tryd.prog 49 #[.pointer (some ⟨b, 0, none⟩), .int .i64 n] w fun e w' => e = .returned (.tuple #[.int .i64 0, .bool false]) ∧ w = w' := by
  have hlt : ¬ (n : Int) ≤ (cap : Int) - l := by omega
  go_enter Tryd.func49, Tryd.ntmps49
  go_wp2
  go_ret2
  exact ⟨rfl, rfl⟩

set_option maxHeartbeats 1000000 in
theorem tryGrow_room (b g l cap n : Nat) (w : World) (h0 : w.cell? ⟨b, 0, none⟩ = some (.slice (some ⟨g, 0, none⟩) l cap)) (f0 : w.frozen? ⟨b, 0, none⟩ = false) (hcm : cap ≤ 9223372036854775807) (hn : l + n ≤ cap) :
    Calls Tryd.prog 49 #[.pointer (some ⟨b, 0, none⟩), .int .i64 n] w fun e w' => e = .returned (.tuple #[.int .i64 l, .bool true]) ∧ w.setCell ⟨b, 0, none⟩ (.slice (some ⟨g, 0, none⟩) (l + n) cap) = w' := by
  have hlt : (n : Int) ≤ (cap : Int) - l := by omega
  have ht : ((l : Int) + (n : Int)).toNat = l + n := by omega
  go_enter Tryd.func49, Tryd.ntmps49
  go_wp2
  go_ret2
  exact ⟨rfl, rfl⟩

set_option maxHeartbeats 1000000 in
theorem len_any (b : Nat) (v : Option Addr) (l cap : Nat) (w : World) (h0 : w.cell? ⟨b, 0, none⟩ = some (.slice v l cap)) (h1 : w.cell? ⟨b, 1, none⟩ = some (.int .i64 0)) (hcm : l ≤ 9223372036854775807) :
    Calls Tryd.prog 57 #[.pointer (some ⟨b, 0, none⟩)] w fun e w' => e = .returned (.int .i64 l) ∧ ∃ n, w' = w.drewN n := by
  have hw : IntKind.i64.wrap (l : Int) = l := by rw [IntKind.wrap_i64]; omega
  go_enter Tryd.func57, Tryd.ntmps57
  go_wp2
  go_quiet (fail)
  go_wp2
  go_ret
  exact ⟨rfl, _, rfl⟩

/-! ### grow (50) -/
/-- What grow leaves: the struct's slice lies in a new row with room for n more; the first l cells are the old ones. -/
def GrownTo (b l n : Nat) (lr : Int) (old : List Value) (w w' : World) : Prop :=
  ∃ g cap Z, w.heap.size ≤ g ∧ w'.heap[b]? = some (.cells #[.slice (some ⟨g, 0, none⟩) (l + n) cap, .int .i64 0, .int .i8 lr] 49 (0, 0)) ∧ w'.heap[g]? = some (.cells Z 5 (0, 0)) ∧ Z.size = cap ∧
    l + n ≤ cap ∧ cap ≤ maxLen ∧ Z.toList.take l = old ∧ Keep w.heap.size b w w'

theorem grown_end {b l n : Nat} {lr : Int} {old : List Value} {w wd w2 : World} {v : Value} {cap2 : Nat} {cells : Array Value} (hd : ∃ k, wd = w.drewN k) (hb : b < w.heap.size)
    (hbk2 : w2.heap[b]? = some (.cells #[v, .int .i64 0, .int .i8 lr] 49 (0, 0))) (hN : w2.heap[wd.heap.size]? = some (.cells cells 5 (0, 0))) (hcs : cells.size = cap2) (hcap : l + n ≤ cap2) (hcm : cap2 ≤ maxLen)
    (htk : cells.toList.take l = old) (hbel : Below wd.heap.size wd w2) (x : Value) :
    GrownTo b l n lr old w (((w2.setCell ⟨b, 0, none⟩ x).setCell ⟨b, 1, none⟩ (.int .i64 0)).setCell ⟨b, 0, none⟩ (.slice (some ⟨wd.heap.size, 0, none⟩) (l + n) cap2)) := by
  obtain ⟨k, rfl⟩ := hd
  have hs : (w.drewN k).heap.size = w.heap.size := rfl
  rw [hs] at hN hbel ⊢
  have hne : w.heap.size ≠ b := by omega
  refine ⟨w.heap.size, cap2, cells, Nat.le_refl _, ?_, ?_, hcs, hcap, hcm, htk, ?_⟩
  · have h := blk_set (blk_set (blk_set hbk2 0 x) 1 (.int .i64 0)) 0 (.slice (some ⟨w.heap.size, 0, none⟩) (l + n) cap2)
    simpa using h
  · rw [blk_setCell_other _ _ _ _ hne, blk_setCell_other _ _ _ _ hne, blk_setCell_other _ _ _ _ hne]; exact hN
  · exact (((Keep.drewN w k).trans (Keep.below hbel)).trans (Keep.setCell _ 0 x)).trans ((Keep.setCell _ 1 _).trans (Keep.setCell _ 0 _))

set_option maxHeartbeats 6400000 in
set_option maxRecDepth 100000 in
theorem grow_nil_big (b n : Nat) (lr : Int) (w : World) (hbk : w.heap[b]? = some (.cells #[.slice none 0 0, .int .i64 0, .int .i8 lr] 49 (0, 0))) (h64 : 64 < n) (hlim : n ≤ 140737488355328) :
    Calls Tryd.prog 50 #[.pointer (some ⟨b, 0, none⟩), .int .i64 n] w fun e w' => e = .returned (.int .i64 0) ∧ GrownTo b 0 n lr [] w w' := by
  have hn : 1 ≤ n := by omega
  have hnil : ∀ W, (binOp .eql 22 (.slice none 0 0) (.slice none 0 0)).run Tryd.prog W = .ok (.bool true) W := fun W => Lib.run_eql_slice_nil_nil W _ _ Tryd.underlying22
  have hbW := Lib.lt_of_heap hbk
  have c0 : w.cell? ⟨b, 0, none⟩ = some (.slice none 0 0) := by rw [Lib.cell_of_heap hbk]; rfl
  have c1 : w.cell? ⟨b, 1, none⟩ = some (.int .i64 0) := by rw [Lib.cell_of_heap hbk]; rfl
  have f0 : w.frozen? ⟨b, 0, none⟩ = false := Lib.frozen_of_heap hbk 0
  have f1 : w.frozen? ⟨b, 1, none⟩ = false := Lib.frozen_of_heap hbk 1
  have hwn : IntKind.i64.wrap (n : Int) = n := by rw [IntKind.wrap_i64]; omega
  go_enter Tryd.func50, Tryd.ntmps50
  go_wp2_with (first | (go_at_call 57; refine (len_any b none 0 0 _ (by exact c0) (by exact c1) (by omega)).mono ?_; rintro e w' ⟨rfl, k, rfl⟩) | (go_at_call 49; refine (tryGrow_none b none 0 0 n _ (by exact c0) (Nat.le_refl _) (by omega) (by omega)).mono ?_; rintro e w' ⟨rfl, rfl⟩))
  go_region_with (
      go_at_call 59
      refine (growSlice_nil n _ hn hlim).mono ?_
      rintro e w2 ⟨cap2, cells, rfl, hN, hcsz, hcap2, hcm2, hbel⟩
      have hbk2 : w2.heap[b]? = some (.cells #[.slice none 0 0, .int .i64 0, .int .i8 lr] 49 (0, 0)) := (hbel.block b hbW).trans hbk
      have d0 : w2.cell? ⟨b, 0, none⟩ = some (.slice none 0 0) := by rw [Lib.cell_of_heap hbk2]; rfl
      have d1 : w2.cell? ⟨b, 1, none⟩ = some (.int .i64 0) := by rw [Lib.cell_of_heap hbk2]; rfl
      have e0 : w2.frozen? ⟨b, 0, none⟩ = false := Lib.frozen_of_heap hbk2 0
      have e1 : w2.frozen? ⟨b, 1, none⟩ = false := Lib.frozen_of_heap hbk2 1)
  all_goals (
    go_wp2
    go_ret
    have hend := grown_end (l := 0) (n := n) (old := []) ⟨k + 1, rfl⟩ hbW hbk2 hN hcsz (by omega) hcm2 rfl hbel (.slice (some ⟨w.heap.size, 0, none⟩) 0 cap2)
    rw [Nat.zero_add] at hend
    exact ⟨rfl, hend⟩)

set_option maxHeartbeats 6400000 in
set_option maxRecDepth 100000 in
theorem grow_row (b g l cap n : Nat) (lr : Int) (cur : Array Value) (w : World) (hbk : w.heap[b]? = some (.cells #[.slice (some ⟨g, 0, none⟩) l cap, .int .i64 0, .int .i8 lr] 49 (0, 0)))
    (hg : w.heap[g]? = some (.cells cur 5 (0, 0))) (hcs : cur.size = cap) (hl : 1 ≤ l) (hlc : l ≤ cap) (hcap : cap < l + n) (hlim : l + n ≤ 140737488355328) (h1 : ∀ v ∈ cur.toList.take l, v.oneCell' = true) :
    Calls Tryd.prog 50 #[.pointer (some ⟨b, 0, none⟩), .int .i64 n] w fun e w' => e = .returned (.int .i64 l) ∧ GrownTo b l n lr (cur.toList.take l) w w' := by
  have hn : 1 ≤ n := by omega
  have hnil : ∀ W, (binOp .eql 22 (.slice (some ⟨g, 0, none⟩) l cap) (.slice none 0 0)).run Tryd.prog W = .ok (.bool false) W := fun W => Lib.run_eql_slice_some_nil W _ _ _ Tryd.underlying22
  have hbW := Lib.lt_of_heap hbk
  have c0 : w.cell? ⟨b, 0, none⟩ = some (.slice (some ⟨g, 0, none⟩) l cap) := by rw [Lib.cell_of_heap hbk]; rfl
  have c1 : w.cell? ⟨b, 1, none⟩ = some (.int .i64 0) := by rw [Lib.cell_of_heap hbk]; rfl
  have f0 : w.frozen? ⟨b, 0, none⟩ = false := Lib.frozen_of_heap hbk 0
  have f1 : w.frozen? ⟨b, 1, none⟩ = false := Lib.frozen_of_heap hbk 1
  have hwn : IntKind.i64.wrap (n : Int) = n := by rw [IntKind.wrap_i64]; omega
  have hl0 : ((l : Int) == 0) = false := beq_eq_false_iff_ne.2 (by omega)
  have hslide : ¬ (n : Int) ≤ (cap : Int) / 2 - l := by omega
  go_enter Tryd.func50, Tryd.ntmps50
  go_wp2_with (first | (go_at_call 57; refine (len_any b _ l cap _ (by exact c0) (by exact c1) (by omega)).mono ?_; rintro e w' ⟨rfl, k, rfl⟩) | (go_at_call 49; refine (tryGrow_none b _ l cap n _ (by exact c0) hlc (by omega) hcap).mono ?_; rintro e w' ⟨rfl, rfl⟩))
  go_region_with (
      go_at_call 59
      refine (growSlice_row g l cap n cur _ ?_ hcs hlc hn hlim (by omega) h1).mono ?_
      exact hg
      rintro e w2 ⟨cap2, cells, rfl, hN, hcsz, htk, hcap2, hcm2, hbel⟩
      have hbk2 : w2.heap[b]? = some (.cells #[.slice (some ⟨g, 0, none⟩) l cap, .int .i64 0, .int .i8 lr] 49 (0, 0)) := (hbel.block b hbW).trans hbk
      have d0 : w2.cell? ⟨b, 0, none⟩ = some (.slice (some ⟨g, 0, none⟩) l cap) := by rw [Lib.cell_of_heap hbk2]; rfl
      have d1 : w2.cell? ⟨b, 1, none⟩ = some (.int .i64 0) := by rw [Lib.cell_of_heap hbk2]; rfl
      have e0 : w2.frozen? ⟨b, 0, none⟩ = false := Lib.frozen_of_heap hbk2 0
      have e1 : w2.frozen? ⟨b, 1, none⟩ = false := Lib.frozen_of_heap hbk2 1)
  all_goals (
    go_wp2
    go_ret
    exact ⟨rfl, grown_end (l := l) (n := n) ⟨k + 1, rfl⟩ hbW hbk2 hN hcsz hcap2 hcm2 htk hbel (.slice (some ⟨w.heap.size, 0, none⟩) l cap2)⟩)

end Go.Proofs.Qxb6608669aDoor
