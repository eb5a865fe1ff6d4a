/-
  ZZWriteOutOfLineBufio (21): what it hands back.
-/
import Derived.Test.Qxb6608669aDoorNew
namespace Go.Proofs.Qxb6608669aDoor
open Go.RowKit Go.Deep

/-- What zzClone hands back: nil, or an own row of just these bytes, below lo. -/
def PreIs (pv : Value) (pre : List UInt8) (lo : Nat) (w : World) : Prop :=
  (pv = .slice none 0 0 ∧ pre = []) ∨ ∃ g, pv = .slice (some ⟨g, 0, none⟩) pre.length pre.length ∧ g < lo ∧ w.heap[g]? = some (.cells (Lib.byteCells pre).toArray 5 (0, 0))

/-- Write(pre) into a new writer. -/
theorem write_pre (B sz : Nat) (pv : Value) (pre : List UInt8) (w : World) (h : St B sz [] [] w) (hp : PreIs pv pre B w) (h1 : 1 ≤ sz) (hs : sz ≤ 65536) (hlim : pre.length ≤ 1048576) :
    Calls Tryd.prog 28 #[.pointer (some ⟨B + 2, 0, none⟩), pv] w fun e w' => e = .returned (.tuple #[.int .i64 pre.length, .nilIface]) ∧ (∃ o bb, o ++ bb = pre ∧ St B sz o bb w') ∧ Below B w w' := by
  obtain ⟨ho, hq, ⟨rest, hr, hl⟩, hlo⟩ := id h
  have hl' : rest.length = sz := by simpa using hl
  have hr' : w.heap[B + 1]? = some (.cells rest.toArray 5 (0, 0)) := hr
  rcases hp with ⟨rfl, rfl⟩ | ⟨g, rfl, hg, hgr⟩
  · refine (write_fit B sz [] [] 0 0 none rest w ho hq ?_ ⟨_, hr⟩ rfl (by omega) hs hlo).mono ?_
    · intro k
      have hc := run_copy_none (P := Tryd.prog) (w.drewN k) 22 22 3 5 (some ⟨B + 1, 0, none⟩) none sz sz 0 0 Tryd.underlying22 size5 (Nat.zero_min sz)
      rw [hc]
      have hself : (w.drewN k).setRow (B + 1) rest.toArray = w.drewN k := setRow_self hr'
      show _ = Result.ok (Value.int .i64 0) ((w.drewN k).setRow (B + 1) rest.toArray)
      rw [hself]; rfl
    · rintro e w' ⟨rfl, hS, hb⟩
      exact ⟨rfl, ⟨[], [], rfl, hS⟩, hb⟩
  · obtain ⟨m, hm⟩ : ∃ m, pre.length = m := ⟨_, rfl⟩
    rw [hm]
    have hsrc : ∀ j v, (Lib.byteCells pre)[j]? = some v → w.cell? ((⟨g, 0, none⟩ : Addr).add j) = some v := by
      intro j v hj
      rw [Lib.addr_add, Nat.zero_add, Lib.cell_of_heap hgr]
      simpa using hj
    by_cases hfit : m ≤ sz
    · refine (write_fit B sz [] pre m m (some ⟨g, 0, none⟩) (rest.drop m) w ho hq ?_ ⟨_, hr⟩ hm (by rw [List.length_drop]; omega) hs hlo).mono ?_
      · intro k
        have hc := run_copy_row (P := Tryd.prog) (w.drewN k) 22 22 3 5 (B + 1) 0 sz sz ⟨g, 0, none⟩ m m rest.toArray 5 (Lib.byteCells pre) Tryd.underlying22 size5 hr' (by rw [Lib.byteCells_length, hm]; exact (Nat.min_eq_left hfit).symm) hsrc (by rw [Lib.byteCells_length, hm]; simp; omega) (Lib.byteCells_one _)
        rw [Lib.byteCells_length, hm] at hc
        simpa [goInt] using hc
      · rintro e w' ⟨rfl, hS, hb⟩
        exact ⟨rfl, ⟨[], pre, rfl, hS⟩, hb⟩
    · refine (write_direct B sz [] pre m m ⟨g, 0, none⟩ w h hg hsrc hm (Nat.le_refl _) (by omega) (by simp; omega) h1 hs (by omega)).mono ?_
      rintro e w' ⟨rfl, hS, hb⟩
      exact ⟨rfl, ⟨pre, [], by simp, hS⟩, hb⟩

theorem alloc_size (w : World) (o : Obj) : (w.alloc o).heap.size = w.heap.size + 1 := by simp

/-- The new writer over the new buffer. -/
theorem newW_St (B sz : Nat) (w : World) (hB : w.heap.size = B) : St B sz [] [] (newW B sz (w.alloc (.cells #[.slice none 0 0, .int .i64 0, .int .i8 0] 49 (0, 0)))) ∧
    Below B w (newW B sz (w.alloc (.cells #[.slice none 0 0, .int .i64 0, .int .i8 0] 49 (0, 0)))) := by
  subst hB
  unfold newW
  generalize hw1 : w.alloc (.cells #[.slice none 0 0, .int .i64 0, .int .i8 0] 49 (0, 0)) = w1
  have s1 : w1.heap.size = w.heap.size + 1 := by rw [← hw1, alloc_size]
  have b0 : w1.heap[w.heap.size]? = some (.cells #[.slice none 0 0, .int .i64 0, .int .i8 0] 49 (0, 0)) := by rw [← hw1]; exact heap_alloc_new w _
  have k1 : Below w.heap.size w w1 := ⟨by rw [← hw1]; rfl, by rw [← hw1]; rfl, by rw [← hw1]; rfl, by omega, fun j hj => by rw [← hw1]; exact RowKit.Below.heap_alloc w _ j hj⟩
  generalize hw2 : w1.alloc (.cells (madeCells #[.int .u8 0] sz) 5 (0, 0)) = w2
  have s2 : w2.heap.size = w.heap.size + 2 := by rw [← hw2, alloc_size, s1]
  have b1 : w2.heap[w.heap.size + 1]? = some (.cells (madeCells #[.int .u8 0] sz) 5 (0, 0)) := by rw [← hw2, ← s1]; exact heap_alloc_new w1 _
  have b0' : w2.heap[w.heap.size]? = some (.cells #[.slice none 0 0, .int .i64 0, .int .i8 0] 49 (0, 0)) := by rw [← hw2]; exact (RowKit.Below.heap_alloc w1 _ _ (by omega)).trans b0
  have k2 : Below w.heap.size w1 w2 := ⟨by rw [← hw2]; rfl, by rw [← hw2]; rfl, by rw [← hw2]; rfl, by omega, fun j hj => by rw [← hw2]; exact RowKit.Below.heap_alloc w1 _ j (by omega)⟩
  rw [s1]
  refine ⟨⟨⟨0, .slice none 0 0, (RowKit.Below.heap_alloc w2 _ _ (by omega)).trans b0', Or.inl ⟨rfl, rfl⟩⟩, ?_, ⟨(madeCells #[.int .u8 0] sz).toList, ?_, ?_⟩, ?_⟩, ?_⟩
  · rw [← s2]; exact heap_alloc_new w2 _
  · refine (RowKit.Below.heap_alloc w2 _ _ (by omega)).trans (b1.trans ?_)
    simp [Lib.byteCells]
  · simp [size_madeCells]
  · rw [alloc_size]; omega
  · exact (k1.trans k2).trans ⟨rfl, rfl, rfl, by rw [alloc_size]; omega, fun j hj => RowKit.Below.heap_alloc w2 _ j (by omega)⟩

theorem PreIs.below {pv : Value} {pre : List UInt8} {lo : Nat} {w w' : World} (h : PreIs pv pre lo w) (hb : Below lo w w') : PreIs pv pre lo w' := by
  rcases h with h | ⟨g, h1, h2, h3⟩
  · exact Or.inl h
  · exact Or.inr ⟨g, h1, h2, (hb.block g h2).trans h3⟩

set_option maxHeartbeats 4000000 in
set_option maxRecDepth 100000 in
theorem bufio_any (B : Nat) (s : Int) (pv : Value) (pre : List UInt8) (x : Nat) (w : World) (hB : w.heap.size = B) (hp : PreIs pv pre B w) (hs : s ≤ 65536) (hlim : pre.length ≤ 1048576) (hx : x < 18446744073709551616) :
    Calls Tryd.prog 21 #[.int .i64 s, pv, .int .u64 x] w fun e w' => ∃ g cap cur, e = .returned (.tuple #[.slice (some ⟨g, 0, none⟩) (pre ++ vb x).length cap, .int .i64 (vb x).length, .bool false]) ∧
      B ≤ g ∧ w'.heap[g]? = some (.cells cur 5 (0, 0)) ∧ (pre ++ vb x).length ≤ cap ∧ cap ≤ maxLen ∧ cur.toList.take (pre ++ vb x).length = Lib.byteCells (pre ++ vb x) ∧ Below B w w' := by
  have HP : Hid (PreIs pv pre B w) := hp
  have HX := Lib.hid hx
  have h1 := sizeOf'_pos s
  have h2 := sizeOf'_le s hs
  have hnn : ∀ w, (binOp .neq 41 .nilIface .nilIface).run Tryd.prog w = .ok (.bool false) w := fun w => Lib.run_neq_nil_nil w Tryd.underlying41
  have HN := Lib.hid (newW_St B (sizeOf' s) w hB)
  have hlx := vbF_len 10 x
  have hpx := vb_pos x
  have hvx : vb x = vbF 10 x := rfl
  rw [← hvx] at hlx
  have HLX := Lib.hid hlx
  have HPX := Lib.hid hpx
  clear hp hx hlx hpx hvx
  go_enter Tryd.func21, Tryd.ntmps21
  go_wp2_with fail
  refine (newWriter_any B s _ hs).mono ?_
  rintro e w1 ⟨rfl, hw1⟩
  rw [alloc_size, hB]
  rw [hw1] at HN
  clear hw1
  have HS1 := Lib.hid HN.out.1
  have HB1 := Lib.hid HN.out.2
  clear HN
  generalize sizeOf' s = sz at *
  go_wp2_with fail
  refine (write_pre B sz pv pre w1 HS1.out (HP.out.below HB1.out) h1 h2 hlim).mono ?_
  rintro e w2 ⟨rfl, ⟨o, bb, ho, hS2⟩, hb2⟩
  have HS2 := Lib.hid hS2
  have HB2 := Lib.hid (HB1.out.trans hb2)
  have hlo : o.length + bb.length = pre.length := by rw [← List.length_append, ho]
  clear hS2 hb2
  go_wp2_with fail
  refine (outLine_any B sz o bb x w2 HS2.out h1 h2 (by omega) HX.out).mono ?_
  rintro e w3 ⟨rfl, ⟨o3, bb3, ho3, hS3⟩, hb3⟩
  rw [ho] at ho3
  have hl3 : o3.length + bb3.length = pre.length + (vb x).length := by rw [← List.length_append, ho3, List.length_append]
  have HS3 := Lib.hid hS3
  have HB3 := Lib.hid (HB2.out.trans hb3)
  clear hS3 hb3
  obtain ⟨m, hm⟩ : ∃ m, (vb x).length = m := ⟨_, rfl⟩
  rw [hm] at hl3
  have HM := Lib.hid hm
  rw [hm]
  clear hm
  go_wp2_with fail
  refine (flush_any B sz o3 bb3 w3 HS3.out h2 (by have := HLX.out; have := HM.out; omega)).mono ?_
  rintro e w4 ⟨rfl, hS4, hb4⟩
  rw [ho3] at hS4
  have HB4 := Lib.hid (HB3.out.trans hb4)
  obtain ⟨⟨lr, v, hbk, hc⟩, -, -, -⟩ := hS4
  rcases hc with ⟨-, hc⟩ | ⟨g, cap, cur, rfl, hg, hgr, hcs, h1l, hlc, hcm, htk⟩
  · exfalso
    have := congrArg List.length hc
    rw [List.length_append] at this
    have hp := HPX.out
    have h0 : ([] : List UInt8).length = 0 := rfl
    omega
  have HBK := Lib.hid hbk
  clear hbk hb4
  obtain ⟨l, hl⟩ : ∃ l, (pre ++ vb x).length = l := ⟨_, rfl⟩
  have HL := Lib.hid hl
  rw [hl] at HBK hlc htk
  have HT := Lib.hid htk
  have HG := Lib.hid hgr
  clear hl htk hgr
  go_wp2_with fail
  go_region_with (go_at_call 25; refine (bytes_any B (some ⟨g, 0, none⟩) lr l cap _ ?_ (Or.inr ⟨g, rfl⟩) hlc).mono ?_; exact HBK.out; rintro e w5 ⟨rfl, k, rfl⟩)
  all_goals (
    go_wp2
    go_ret3
    rw [HL.out, HM.out]
    refine ⟨g, cap, cur, rfl, by omega, HG.out, hlc, hcm, HT.out, ?_⟩
    exact HB4.out.trans ⟨rfl, rfl, rfl, Nat.le_refl _, fun _ _ => rfl⟩)
end Go.Proofs.Qxb6608669aDoor
