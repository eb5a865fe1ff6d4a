/-
  The walks of the two laws: FnSubCountsUndoesItself (3), FnSubCountsInSteps (4), each way through.
-/
import Derived.Test.Qxb6608858aFmtWalks
namespace Go.Proofs.Qxb6608858aFmt
open Go.RowKit Go.Extern.Stop Go.Stop Go.Extern
theorem below_go {w w1 w2 : World} (h1 : Below w.heap.size w w1) (h2 : Below w1.heap.size w1 w2) : Below w.heap.size w w2 :=
  h1.trans (h2.mono h1.size)

set_option maxHeartbeats 1600000 in
theorem u_long (n m : Int) (p : ByteArray) (w : World) (h : (1048576 : Int) < p.size) :
    Calls Tryf.prog 3 #[.int .u64 n, .int .u64 m, .string p] w fun e w' => e = .returned (.bool true) ∧ Below w.heap.size w w' := by
  go_enter Tryf.func3, Tryf.ntmps3
  go_wp2
  all_goals go_ret
  all_goals exact ⟨rfl, Below.refl _ _⟩


theorem bytes7 (n m : Int) (p : ByteArray) (w : World) (h : ¬ (1048576 : Int) < p.size) :
    Calls Tryf.prog 7 #[.int .u64 n, .int .u64 m, .string p] w fun e w' => e = .returned (.bool true) ∧ w = w' := by
  go_enter Tryf.func7, Tryf.ntmps7
  go_wp2
  go_ret
  exact ⟨rfl, rfl⟩

theorem bytes10 (n m k : Int) (p : ByteArray) (w : World) (h : ¬ (1048576 : Int) < p.size) :
    Calls Tryf.prog 10 #[.int .u64 n, .int .u64 m, .int .u64 k, .string p] w fun e w' => e = .returned (.bool true) ∧ w = w' := by
  go_enter Tryf.func10, Tryf.ntmps10
  go_wp2
  go_ret
  exact ⟨rfl, rfl⟩

theorem two_cells {w w1 : World} {a : Addr} {v u : Value} (hb : Below w.heap.size w w1) (hg : w.cell? ⟨0, 0, none⟩ = some u) (hs : w.cell? a = some v) :
    w1.cell? ⟨0, 0, none⟩ = some u ∧ w1.cell? a = some v := by
  refine ⟨?_, ?_⟩
  · rw [hb.cell (World.block_lt_of_cell? _ _ hg)]; exact hg
  · rw [hb.cell (World.block_lt_of_cell? _ _ hs)]; exact hs

set_option maxHeartbeats 1600000 in
theorem u_low (n m : Int) (p : ByteArray) (a : Addr) (s : ByteArray) (w : World) (h : ¬ (1048576 : Int) < p.size) (hnm : n < m)
    (hg : w.cell? ⟨0, 0, none⟩ = some (.iface 54 (.pointer (some a)))) (hs : w.cell? a = some (.string s)) :
    Calls Tryf.prog 3 #[.int .u64 n, .int .u64 m, .string p] w fun e w' => e = .returned (.bool true) ∧ Below w.heap.size w w' := by
  go_enter Tryf.func3, Tryf.ntmps3
  go_wp2_with fail
  refine (bytes7 n m p _ (by omega)).mono ?_
  rintro e w' ⟨rfl, rfl⟩
  go_wp2_with fail
  refine (newq_any p _).mono ?_
  rintro e w1 ⟨rfl, hb1, hq1⟩
  have hc := two_cells hb1 hg hs
  obtain ⟨hg1, hs1⟩ := hc
  go_wp2_with fail
  refine (zsub_low n m w.heap.size p a s _ hnm hg1 hs1 hq1).mono ?_
  rintro e w2 ⟨⟨q, rfl⟩, hb2⟩
  go_wp2_with fail
  go_ret
  exact ⟨rfl, below_go hb1 hb2⟩

set_option maxHeartbeats 1600000 in
theorem u_ok (n m : Int) (p : ByteArray) (w : World) (h : ¬ (1048576 : Int) < p.size) (hnm : ¬ n < m) (h0 : 0 ≤ m) (h1 : n ≤ 18446744073709551615) :
    Calls Tryf.prog 3 #[.int .u64 n, .int .u64 m, .string p] w fun e w' => e = .returned (.bool true) ∧ Below w.heap.size w w' := by
  go_enter Tryf.func3, Tryf.ntmps3
  go_wp2_with fail
  refine (bytes7 n m p _ (by omega)).mono ?_
  rintro e w' ⟨rfl, rfl⟩
  go_wp2_with fail
  refine (newq_any p _).mono ?_
  rintro e w1 ⟨rfl, hb1, hq1⟩
  go_wp2_with fail
  refine (zsub_ok n m _ _ (by omega) h0 h1).mono ?_
  rintro e w2 ⟨rfl, rfl⟩
  go_wp2_with fail
  refine (zsub_ok n (n - m) _ _ (by omega) (by omega) h1).mono ?_
  rintro e w2 ⟨rfl, rfl⟩
  rw [show n - (n - m) = m from by omega]
  go_wp2_with fail
  go_ret
  exact ⟨rfl, hb1⟩

/-! ### FnSubCountsInSteps (4) -/
set_option maxHeartbeats 1600000 in
theorem s_long (n a b : Int) (p : ByteArray) (w : World) (h : (1048576 : Int) < p.size) :
    Calls Tryf.prog 4 #[.int .u64 n, .int .u64 a, .int .u64 b, .string p] w fun e w' => e = .returned (.bool true) ∧ Below w.heap.size w w' := by
  go_enter Tryf.func4, Tryf.ntmps4
  go_wp2
  all_goals go_ret
  all_goals exact ⟨rfl, Below.refl _ _⟩

-- The first step is refused.
set_option maxHeartbeats 1600000 in
theorem s_first (n a b : Int) (p : ByteArray) (ad : Addr) (s : ByteArray) (w : World) (h : ¬ (1048576 : Int) < p.size) (hna : n < a)
    (hg : w.cell? ⟨0, 0, none⟩ = some (.iface 54 (.pointer (some ad)))) (hs : w.cell? ad = some (.string s)) :
    Calls Tryf.prog 4 #[.int .u64 n, .int .u64 a, .int .u64 b, .string p] w fun e w' => e = .returned (.bool true) ∧ Below w.heap.size w w' := by
  go_enter Tryf.func4, Tryf.ntmps4
  go_wp2_with fail
  refine (bytes10 n a b p _ (by omega)).mono ?_
  rintro e w' ⟨rfl, rfl⟩
  go_wp2_with fail
  refine (newq_any p _).mono ?_
  rintro e w1 ⟨rfl, hb1, hq1⟩
  obtain ⟨hg1, hs1⟩ := two_cells hb1 hg hs
  go_wp2_with fail
  all_goals
    refine (zsub_low n a w.heap.size p ad s _ hna hg1 hs1 hq1).mono ?_
    rintro e w2 ⟨⟨q, rfl⟩, hb2⟩
    go_wp2_with fail
    go_ret
    exact ⟨rfl, below_go hb1 hb2⟩

-- Both steps go.
set_option maxHeartbeats 1600000 in
theorem s_both (n a b : Int) (p : ByteArray) (w : World) (h : ¬ (1048576 : Int) < p.size) (a0 : 0 ≤ a) (b0 : 0 ≤ b) (hab : a + b ≤ n) (h1 : n ≤ 18446744073709551615) :
    Calls Tryf.prog 4 #[.int .u64 n, .int .u64 a, .int .u64 b, .string p] w fun e w' => e = .returned (.bool true) ∧ Below w.heap.size w w' := by
  go_enter Tryf.func4, Tryf.ntmps4
  go_wp2_with fail
  refine (bytes10 n a b p _ (by omega)).mono ?_
  rintro e w' ⟨rfl, rfl⟩
  go_wp2_with fail
  refine (newq_any p _).mono ?_
  rintro e w1 ⟨rfl, hb1, hq1⟩
  go_wp2_with fail
  refine (zsub_ok n a _ _ (by omega) a0 h1).mono ?_
  rintro e w2 ⟨rfl, rfl⟩
  go_wp2_with fail
  refine (zsub_ok (n - a) b _ _ (by omega) b0 (by omega)).mono ?_
  rintro e w2 ⟨rfl, rfl⟩
  rw [show n - a - b = n - (a + b) from by omega]
  go_wp2_with fail
  go_ret
  exact ⟨rfl, hb1⟩

-- The second step is refused; the sum does not wrap.
set_option maxHeartbeats 1600000 in
theorem s_second (n a b : Int) (p : ByteArray) (ad : Addr) (s : ByteArray) (w : World) (h : ¬ (1048576 : Int) < p.size) (a0 : 0 ≤ a) (b0 : 0 ≤ b) (hna : a ≤ n) (hab : n < a + b) (h2 : a + b ≤ 18446744073709551615) (h1 : n ≤ 18446744073709551615)
    (hg : w.cell? ⟨0, 0, none⟩ = some (.iface 54 (.pointer (some ad)))) (hs : w.cell? ad = some (.string s)) :
    Calls Tryf.prog 4 #[.int .u64 n, .int .u64 a, .int .u64 b, .string p] w fun e w' => e = .returned (.bool true) ∧ Below w.heap.size w w' := by
  have hd : decide (a + b ≤ n) = false := by simp; omega
  go_enter Tryf.func4, Tryf.ntmps4
  go_wp2_with fail
  refine (bytes10 n a b p _ (by omega)).mono ?_
  rintro e w' ⟨rfl, rfl⟩
  go_wp2_with fail
  refine (newq_any p _).mono ?_
  rintro e w1 ⟨rfl, hb1, hq1⟩
  obtain ⟨hg1, hs1⟩ := two_cells hb1 hg hs
  go_wp2_with fail
  refine (zsub_ok n a _ _ (by omega) a0 h1).mono ?_
  rintro e w2 ⟨rfl, rfl⟩
  go_wp2_with fail
  refine (zsub_low (n - a) b w.heap.size p ad s _ (by omega) hg1 hs1 hq1).mono ?_
  rintro e w2 ⟨⟨q, rfl⟩, hb2⟩
  go_wp2_with fail
  go_ret
  exact ⟨rfl, below_go hb1 hb2⟩

-- The second step is refused; the sum wraps.
set_option maxHeartbeats 1600000 in
theorem s_wraps (n a b : Int) (p : ByteArray) (ad : Addr) (s : ByteArray) (w : World) (h : ¬ (1048576 : Int) < p.size) (a0 : 0 ≤ a) (hna : a ≤ n) (hab : n < a + b) (h2 : IntKind.u64.wrap (a + b) < a) (h1 : n ≤ 18446744073709551615)
    (hg : w.cell? ⟨0, 0, none⟩ = some (.iface 54 (.pointer (some ad)))) (hs : w.cell? ad = some (.string s)) :
    Calls Tryf.prog 4 #[.int .u64 n, .int .u64 a, .int .u64 b, .string p] w fun e w' => e = .returned (.bool true) ∧ Below w.heap.size w w' := by
  go_enter Tryf.func4, Tryf.ntmps4
  go_wp2_with fail
  refine (bytes10 n a b p _ (by omega)).mono ?_
  rintro e w' ⟨rfl, rfl⟩
  go_wp2_with fail
  refine (newq_any p _).mono ?_
  rintro e w1 ⟨rfl, hb1, hq1⟩
  obtain ⟨hg1, hs1⟩ := two_cells hb1 hg hs
  go_wp2_with fail
  refine (zsub_ok n a _ _ (by omega) a0 h1).mono ?_
  rintro e w2 ⟨rfl, rfl⟩
  go_wp2_with fail
  refine (zsub_low (n - a) b w.heap.size p ad s _ (by omega) hg1 hs1 hq1).mono ?_
  rintro e w2 ⟨⟨q, rfl⟩, hb2⟩
  go_wp2_with fail
  go_ret
  exact ⟨rfl, below_go hb1 hb2⟩
end Go.Proofs.Qxb6608858aFmt
