/-
  bytes.Buffer: grow of the nil buffer, Write (39).
-/
import Derived.Test.Qxb6608669aDoorBuf
namespace Go.Proofs.Qxb6608669aDoor
open Go.RowKit Go.Deep
set_option maxHeartbeats 6400000 in
set_option maxRecDepth 100000 in
theorem grow_nil_small (b n : Nat) (lr : Int) (w : World) (hbk : w.heap[b]? = some (.cells #[.slice none 0 0, .int .i64 0, .int .i8 lr] 49 (0, 0))) (hn : 1 ≤ n) (h64 : n ≤ 64) :
    Calls Tryd.prog 50 #[.pointer (some ⟨b, 0, none⟩), .int .i64 n] w fun e w' => e = .returned (.int .i64 0) ∧ GrownTo b 0 n lr [] w w' := by
  have hnil : ∀ W, (binOp .eql 22 (.slice none 0 0) (.slice none 0 0)).run Tryd.prog W = .ok (.bool true) W := fun W => Lib.run_eql_slice_nil_nil W _ _ Tryd.underlying22
  have hbW := Lib.lt_of_heap hbk
  obtain ⟨i0, hi, hz0, hz1, hz2⟩ := info_parts info5
  obtain ⟨M, hM⟩ : ∃ M, M = madeCells (Value.int .u8 0).cells ((64 : Int).toNat * i0.size) := ⟨_, rfl⟩
  have hMs : M.size = 64 := by rw [hM, size_madeCells, hz1]; rfl
  have hmk : ∀ W : World, (Instr.makeSlice 22 (.int .i64 (n : Int)) (.int .i64 64)).run Tryd.prog W = .ok (.slice (some ⟨W.heap.size, 0, none⟩) n 64) (W.alloc (.cells M 5)) := fun W => by
    have h := run_make (P := Tryd.prog) W 22 5 i0 (.int .u8 0) Tryd.underlying22 hi hz0 .i64 .i64 (n : Int) 64 (by omega) (by omega) (by rw [hz2]; decide) (by decide)
    rw [← hM] at h
    simpa using h
  clear hM
  have c0 : w.cell? ⟨b, 0, none⟩ = some (.slice none 0 0) := by rw [Lib.cell_of_heap hbk]; rfl
  have c1 : w.cell? ⟨b, 1, none⟩ = some (.int .i64 0) := by rw [Lib.cell_of_heap hbk]; rfl
  have f0 : w.frozen? ⟨b, 0, none⟩ = false := Lib.frozen_of_heap hbk 0
  have c0a : ∀ k o, ((w.drewN k).alloc o).cell? ⟨b, 0, none⟩ = some (.slice none 0 0) := fun k o => (World.cell?_of_block (a := ⟨b, 0, none⟩) (RowKit.Below.heap_alloc (w.drewN k) o b hbW)).trans c0
  have f0a : ∀ k o, ((w.drewN k).alloc o).frozen? ⟨b, 0, none⟩ = false := fun k o => (World.frozen?_of_block (a := ⟨b, 0, none⟩) (RowKit.Below.heap_alloc (w.drewN k) o b hbW)).trans f0
  go_enter Tryd.func50, Tryd.ntmps50
  go_wp2_with (first | (go_at_call 57; refine (len_any b none 0 0 _ (by exact c0) (by exact c1) (by omega)).mono ?_; rintro e w' ⟨rfl, k, rfl⟩) | (go_at_call 49; refine (tryGrow_none b none 0 0 n _ (by exact c0) (Nat.le_refl _) (by omega) (by omega)).mono ?_; rintro e w' ⟨rfl, rfl⟩))
  go_ret
  refine ⟨rfl, w.heap.size, 64, M, Nat.le_refl _, ?_, ?_, hMs, by omega, by unfold maxLen; omega, rfl, ?_⟩
  · have h := blk_set (w := (w.drewN k).alloc (.cells M 5)) ((RowKit.Below.heap_alloc (w.drewN k) _ b hbW).trans hbk) 0 (.slice (some ⟨w.heap.size, 0, none⟩) n 64)
    rw [Nat.zero_add]
    exact h
  · rw [blk_setCell_other _ _ _ _ (show w.heap.size ≠ b by omega)]; exact heap_alloc_new (w.drewN k) _
  · exact ((Keep.drewN w k).trans (Keep.alloc (w.drewN k) _ (Nat.le_refl _))).trans (Keep.setCell _ 0 _)

theorem grow_nil (b n : Nat) (lr : Int) (w : World) (hbk : w.heap[b]? = some (.cells #[.slice none 0 0, .int .i64 0, .int .i8 lr] 49 (0, 0))) (hn : 1 ≤ n) (hlim : n ≤ 140737488355328) :
    Calls Tryd.prog 50 #[.pointer (some ⟨b, 0, none⟩), .int .i64 n] w fun e w' => e = .returned (.int .i64 0) ∧ GrownTo b 0 n lr [] w w' := by
  by_cases h : n ≤ 64
  · exact grow_nil_small b n lr w hbk hn h
  · exact grow_nil_big b n lr w hbk (by omega) hlim

/-! ### (*bytes.Buffer).Write (39) -/
/-- Block b is a bytes.Buffer that has only been written: it holds the bytes o; its row, if any, lies from block lo on. -/
def Out (b lo : Nat) (o : List UInt8) (w : World) : Prop :=
  ∃ lr v, w.heap[b]? = some (.cells #[v, .int .i64 0, .int .i8 lr] 49 (0, 0)) ∧
    ((v = .slice none 0 0 ∧ o = []) ∨
      ∃ g cap cur, v = .slice (some ⟨g, 0, none⟩) o.length cap ∧ lo ≤ g ∧ w.heap[g]? = some (.cells cur 5 (0, 0)) ∧ cur.size = cap ∧ 1 ≤ o.length ∧ o.length ≤ cap ∧ cap ≤ maxLen ∧ cur.toList.take o.length = Lib.byteCells o)

theorem write_end {b lo g l n cap : Nat} {lr : Int} {o p : List UInt8} {cur : Array Value} {w : World} (hbk : w.heap[b]? = some (.cells #[.slice (some ⟨g, 0, none⟩) (l + n) cap, .int .i64 0, .int .i8 lr] 49 (0, 0)))
    (hg : w.heap[g]? = some (.cells cur 5 (0, 0))) (hlg : lo ≤ g) (hgb : b ≠ g) (hcs : cur.size = cap) (hlc : l + n ≤ cap) (hcm : cap ≤ maxLen) (hl : o.length = l) (hp : p.length = n) (hn : 1 ≤ n) :
    Out b lo (o ++ p) (w.setRow g (Lib.byteCells o ++ (Lib.byteCells p ++ cur.toList.drop (l + n))).toArray) := by
  refine ⟨lr, .slice (some ⟨g, 0, none⟩) (l + n) cap, ?_, Or.inr ⟨g, cap, _, ?_, hlg, setRow_heap _ _ cur _ 5 (0, 0) hg, ?_, ?_, ?_, hcm, ?_⟩⟩
  · rw [setRow_other _ _ _ _ hgb]; exact hbk
  · rw [List.length_append, hl, hp]
  · have hcl : cur.toList.length = cap := by simpa using hcs
    simp only [List.size_toArray, List.length_append, List.length_drop, Lib.byteCells_length]
    omega
  · rw [List.length_append]; omega
  · rw [List.length_append]; omega
  · rw [List.length_append, hl, hp]
    have h2 : (Lib.byteCells o ++ Lib.byteCells p).length = l + n := by rw [List.length_append, Lib.byteCells_length, Lib.byteCells_length, hl, hp]
    rw [Lib.byteCells_append, ← List.append_assoc, List.take_append_of_le_length (by rw [h2]; exact Nat.le_refl _), List.take_of_length_le (by rw [h2]; exact Nat.le_refl _)]

theorem src_kept {p : List Value} {a : Addr} {w w' : World} {b : Nat} (hk : Keep w.heap.size b w w') (hab : a.block ≠ b) (hsrc : ∀ j v, p[j]? = some v → w.cell? (a.add j) = some v) :
    ∀ j v, p[j]? = some v → w'.cell? (a.add j) = some v := by
  intro j v hj
  have h := hsrc j v hj
  have hbl : (a.add j).block = a.block := by unfold Addr.add; split <;> rfl
  have hlt := World.block_lt_of_cell? _ _ h
  rw [World.cell?_of_block (w := w) (hk.block _ hlt (by rw [hbl]; exact hab))]
  exact h

set_option maxHeartbeats 6400000 in
set_option maxRecDepth 100000 in
theorem write_nil (b lo : Nat) (lr : Int) (p : List UInt8) (n : Nat) (a : Addr) (c : Nat) (w : World) (hbk : w.heap[b]? = some (.cells #[.slice none 0 0, .int .i64 0, .int .i8 lr] 49 (0, 0)))
    (hb : b < lo) (hlo : lo ≤ w.heap.size) (hn : p.length = n) (hp : 1 ≤ n) (hlim : n ≤ 1099511627776) (hab : a.block ≠ b)
    (hsrc : ∀ j v, (Lib.byteCells p)[j]? = some v → w.cell? (a.add j) = some v) :
    Calls Tryd.prog 39 #[.pointer (some ⟨b, 0, none⟩), .slice (some a) n c] w fun e w' => e = .returned (.tuple #[.int .i64 n, .nilIface]) ∧ Out b lo p w' ∧ Keep lo b w w' := by
  have c2 : w.cell? ⟨b, 2, none⟩ = some (.int .i8 lr) := by rw [Lib.cell_of_heap hbk]; rfl
  have f2 : w.frozen? ⟨b, 2, none⟩ = false := Lib.frozen_of_heap hbk 2
  obtain ⟨w1, hw1⟩ : ∃ w1, w.setCell ⟨b, 2, none⟩ (.int .i8 0) = w1 := ⟨_, rfl⟩
  have hbk1 : w1.heap[b]? = some (.cells #[.slice none 0 0, .int .i64 0, .int .i8 0] 49 (0, 0)) := by rw [← hw1]; exact blk_set hbk 2 _
  have hk1 : Keep w.heap.size b w w1 := by rw [← hw1]; exact Keep.setCell _ _ _
  have hs1 : w1.heap.size = w.heap.size := by rw [← hw1]; exact nblk_setCell _ _ _
  have c0 : w1.cell? ⟨b, 0, none⟩ = some (.slice none 0 0) := by rw [Lib.cell_of_heap hbk1]; rfl
  have HS : Hid (∀ j v, (Lib.byteCells p)[j]? = some v → w1.cell? (a.add j) = some v) := src_kept hk1 hab hsrc
  clear hsrc
  go_enter Tryd.func39, Tryd.ntmps39
  go_wp2_with fail
  refine (tryGrow_none b none 0 0 n _ c0 (Nat.le_refl _) (by omega) (by omega)).mono ?_
  rintro e w' ⟨rfl, rfl⟩
  go_wp2_with fail
  refine (grow_nil b n 0 _ hbk1 hp (by omega)).mono ?_
  rintro e w2 ⟨rfl, g, cap, Z, hgs, hbk2, hg2, hZs, hlc, hcm, htk, hk2⟩
  have d0 : w2.cell? ⟨b, 0, none⟩ = some (.slice (some ⟨g, 0, none⟩) n cap) := by rw [Lib.cell_of_heap hbk2, Nat.zero_add]; rfl
  have hsrc2 := src_kept hk2 hab HS.out
  have hcp := run_copy_row (P := Tryd.prog) w2 22 22 3 5 g 0 n cap a n c Z 5 (Lib.byteCells p) Tryd.underlying22 size5 hg2 (by rw [Lib.byteCells_length, hn]; exact (Nat.min_self n).symm) hsrc2 (by rw [Lib.byteCells_length, hn]; omega) (Lib.byteCells_one p)
  rw [Lib.byteCells_length, hn] at hcp
  have hcm' := hcm
  unfold maxLen at hcm'
  clear hsrc2
  go_wp2_with fail
  go_ret2
  have hend := write_end (b := b) (lo := lo) (o := []) (p := p) hbk2 hg2 (by omega) (by omega) hZs hlc hcm rfl hn hp
  rw [Nat.zero_add, show Lib.byteCells [] = [] from rfl, List.nil_append, List.nil_append] at hend
  exact ⟨rfl, hend, (((hk1.trans (hk2.mono (by omega))).mono hlo).trans (Keep.setRow _ g _ (by omega)))⟩

set_option maxHeartbeats 6400000 in
set_option maxRecDepth 100000 in
theorem write_room (b lo g l cap : Nat) (lr : Int) (cur : Array Value) (o p : List UInt8) (n : Nat) (a : Addr) (c : Nat) (w : World) (hbk : w.heap[b]? = some (.cells #[.slice (some ⟨g, 0, none⟩) l cap, .int .i64 0, .int .i8 lr] 49 (0, 0)))
    (hg : w.heap[g]? = some (.cells cur 5 (0, 0))) (hlg : lo ≤ g) (hcs : cur.size = cap) (hcm : cap ≤ maxLen) (hol : o.length = l) (htk : cur.toList.take l = Lib.byteCells o)
    (hb : b < lo) (hlo : lo ≤ w.heap.size) (hn : p.length = n) (hp : 1 ≤ n) (hroom : l + n ≤ cap) (hab : a.block ≠ b)
    (hsrc : ∀ j v, (Lib.byteCells p)[j]? = some v → w.cell? (a.add j) = some v) :
    Calls Tryd.prog 39 #[.pointer (some ⟨b, 0, none⟩), .slice (some a) n c] w fun e w' => e = .returned (.tuple #[.int .i64 n, .nilIface]) ∧ Out b lo (o ++ p) w' ∧ Keep lo b w w' := by
  have c2 : w.cell? ⟨b, 2, none⟩ = some (.int .i8 lr) := by rw [Lib.cell_of_heap hbk]; rfl
  have f2 : w.frozen? ⟨b, 2, none⟩ = false := Lib.frozen_of_heap hbk 2
  obtain ⟨w1, hw1⟩ : ∃ w1, w.setCell ⟨b, 2, none⟩ (.int .i8 0) = w1 := ⟨_, rfl⟩
  have hbk1 : w1.heap[b]? = some (.cells #[.slice (some ⟨g, 0, none⟩) l cap, .int .i64 0, .int .i8 0] 49 (0, 0)) := by rw [← hw1]; exact blk_set hbk 2 _
  have hk1 : Keep w.heap.size b w w1 := by rw [← hw1]; exact Keep.setCell _ _ _
  have hs1 : w1.heap.size = w.heap.size := by rw [← hw1]; exact nblk_setCell _ _ _
  have c0 : w1.cell? ⟨b, 0, none⟩ = some (.slice (some ⟨g, 0, none⟩) l cap) := by rw [Lib.cell_of_heap hbk1]; rfl
  have f0 : w1.frozen? ⟨b, 0, none⟩ = false := Lib.frozen_of_heap hbk1 0
  have hcm' := hcm
  unfold maxLen at hcm'
  have HS : Hid (∀ j v, (Lib.byteCells p)[j]? = some v → w1.cell? (a.add j) = some v) := src_kept hk1 hab hsrc
  have hg1 : w1.heap[g]? = some (.cells cur 5 (0, 0)) := (hk1.block g (Lib.lt_of_heap hg) (by omega)).trans hg
  clear hsrc
  go_enter Tryd.func39, Tryd.ntmps39
  go_wp2_with fail
  refine (tryGrow_room b g l cap n _ c0 f0 (by omega) hroom).mono ?_
  rintro e w2 ⟨rfl, hw2⟩
  have hbk2 : w2.heap[b]? = some (.cells #[.slice (some ⟨g, 0, none⟩) (l + n) cap, .int .i64 0, .int .i8 0] 49 (0, 0)) := by rw [← hw2]; exact blk_set hbk1 0 _
  have hk2 : Keep w1.heap.size b w1 w2 := by rw [← hw2]; exact Keep.setCell _ _ _
  have hg2 : w2.heap[g]? = some (.cells cur 5 (0, 0)) := (hk2.block g (Lib.lt_of_heap hg1) (by omega)).trans hg1
  clear hw2
  have d0 : w2.cell? ⟨b, 0, none⟩ = some (.slice (some ⟨g, 0, none⟩) (l + n) cap) := by rw [Lib.cell_of_heap hbk2]; rfl
  have hsrc2 := src_kept hk2 hab HS.out
  have hcp := run_copy_row (P := Tryd.prog) w2 22 22 3 5 g l n (cap - l) a n c cur 5 (Lib.byteCells p) Tryd.underlying22 size5 hg2 (by rw [Lib.byteCells_length, hn]; exact (Nat.min_self n).symm) hsrc2 (by rw [Lib.byteCells_length, hn]; omega) (Lib.byteCells_one p)
  rw [Lib.byteCells_length, hn] at hcp
  clear hsrc2
  have hne : ¬ cap = l := by omega
  go_wp2_with fail
  go_ret2
  have hend := write_end (b := b) (lo := lo) (o := o) (p := p) hbk2 hg2 hlg (by omega) hcs hroom hcm hol hn hp
  exact ⟨rfl, hend, ((hk1.trans (hk2.mono (by omega))).mono hlo).trans (Keep.setRow w2 g _ hlg)⟩

set_option maxHeartbeats 6400000 in
set_option maxRecDepth 100000 in
theorem write_grow (b lo g l cap : Nat) (lr : Int) (cur : Array Value) (o p : List UInt8) (n : Nat) (a : Addr) (c : Nat) (w : World) (hbk : w.heap[b]? = some (.cells #[.slice (some ⟨g, 0, none⟩) l cap, .int .i64 0, .int .i8 lr] 49 (0, 0)))
    (hg : w.heap[g]? = some (.cells cur 5 (0, 0))) (hlg : lo ≤ g) (hcs : cur.size = cap) (hl : 1 ≤ l) (hlc : l ≤ cap) (hol : o.length = l) (htk : cur.toList.take l = Lib.byteCells o)
    (hb : b < lo) (hlo : lo ≤ w.heap.size) (hn : p.length = n) (hlim : l + n ≤ 1099511627776) (hroom : cap < l + n) (hab : a.block ≠ b)
    (hsrc : ∀ j v, (Lib.byteCells p)[j]? = some v → w.cell? (a.add j) = some v) :
    Calls Tryd.prog 39 #[.pointer (some ⟨b, 0, none⟩), .slice (some a) n c] w fun e w' => e = .returned (.tuple #[.int .i64 n, .nilIface]) ∧ Out b lo (o ++ p) w' ∧ Keep lo b w w' := by
  have hp : 1 ≤ n := by omega
  have c2 : w.cell? ⟨b, 2, none⟩ = some (.int .i8 lr) := by rw [Lib.cell_of_heap hbk]; rfl
  have f2 : w.frozen? ⟨b, 2, none⟩ = false := Lib.frozen_of_heap hbk 2
  obtain ⟨w1, hw1⟩ : ∃ w1, w.setCell ⟨b, 2, none⟩ (.int .i8 0) = w1 := ⟨_, rfl⟩
  have hbk1 : w1.heap[b]? = some (.cells #[.slice (some ⟨g, 0, none⟩) l cap, .int .i64 0, .int .i8 0] 49 (0, 0)) := by rw [← hw1]; exact blk_set hbk 2 _
  have hk1 : Keep w.heap.size b w w1 := by rw [← hw1]; exact Keep.setCell _ _ _
  have hs1 : w1.heap.size = w.heap.size := by rw [← hw1]; exact nblk_setCell _ _ _
  have c0 : w1.cell? ⟨b, 0, none⟩ = some (.slice (some ⟨g, 0, none⟩) l cap) := by rw [Lib.cell_of_heap hbk1]; rfl
  have HS : Hid (∀ j v, (Lib.byteCells p)[j]? = some v → w1.cell? (a.add j) = some v) := src_kept hk1 hab hsrc
  have hg1 : w1.heap[g]? = some (.cells cur 5 (0, 0)) := (hk1.block g (Lib.lt_of_heap hg) (by omega)).trans hg
  have h1c : ∀ v ∈ cur.toList.take l, v.oneCell' = true := by rw [htk]; exact Lib.byteCells_one o
  clear hsrc
  go_enter Tryd.func39, Tryd.ntmps39
  go_wp2_with fail
  refine (tryGrow_none b _ l cap n _ c0 hlc (by omega) hroom).mono ?_
  rintro e w' ⟨rfl, rfl⟩
  go_wp2_with fail
  refine (grow_row b g l cap n 0 cur _ hbk1 hg1 hcs hl hlc hroom (by omega) h1c).mono ?_
  rintro e w2 ⟨rfl, g2, cap2, Z, hgs, hbk2, hg2, hZs, hlc2, hcm, htk2, hk2⟩
  have d0 : w2.cell? ⟨b, 0, none⟩ = some (.slice (some ⟨g2, 0, none⟩) (l + n) cap2) := by rw [Lib.cell_of_heap hbk2]; rfl
  have hsrc2 := src_kept hk2 hab HS.out
  have hcp := run_copy_row (P := Tryd.prog) w2 22 22 3 5 g2 l n (cap2 - l) a n c Z 5 (Lib.byteCells p) Tryd.underlying22 size5 hg2 (by rw [Lib.byteCells_length, hn]; exact (Nat.min_self n).symm) hsrc2 (by rw [Lib.byteCells_length, hn]; omega) (Lib.byteCells_one p)
  rw [Lib.byteCells_length, hn] at hcp
  have hcm' := hcm
  unfold maxLen at hcm'
  rw [htk] at htk2
  clear hsrc2 htk h1c
  have hne : ¬ cap2 = l := by omega
  go_wp2_with fail
  go_ret2
  have hend := write_end (b := b) (lo := lo) (o := o) (p := p) hbk2 hg2 (by omega) (by omega) hZs hlc2 hcm hol hn hp
  exact ⟨rfl, hend, ((hk1.trans (hk2.mono (by omega))).mono hlo).trans (Keep.setRow w2 g2 _ (by omega))⟩

/-- Write: whatever the buffer holds. -/
theorem write_any (b lo : Nat) (o p : List UInt8) (n : Nat) (a : Addr) (c : Nat) (w : World) (h : Out b lo o w) (hb : b < lo) (hlo : lo ≤ w.heap.size) (hn : p.length = n) (hp : 1 ≤ n)
    (hlim : o.length + n ≤ 1099511627776) (hab : a.block ≠ b) (hsrc : ∀ j v, (Lib.byteCells p)[j]? = some v → w.cell? (a.add j) = some v) :
    Calls Tryd.prog 39 #[.pointer (some ⟨b, 0, none⟩), .slice (some a) n c] w fun e w' => e = .returned (.tuple #[.int .i64 n, .nilIface]) ∧ Out b lo (o ++ p) w' ∧ Keep lo b w w' := by
  obtain ⟨lr, v, hbk, ⟨rfl, rfl⟩ | ⟨g, cap, cur, rfl, hlg, hg, hcs, hl, hlc, hcm, htk⟩⟩ := h
  · exact write_nil b lo lr p n a c w hbk hb hlo hn hp (by omega) hab hsrc
  · by_cases hroom : o.length + n ≤ cap
    · exact write_room b lo g o.length cap lr cur o p n a c w hbk hg hlg hcs hcm rfl htk hb hlo hn hp hroom hab hsrc
    · exact write_grow b lo g o.length cap lr cur o p n a c w hbk hg hlg hcs hl hlc rfl htk hb hlo hn hlim (by omega) hab hsrc
end Go.Proofs.Qxb6608669aDoor
