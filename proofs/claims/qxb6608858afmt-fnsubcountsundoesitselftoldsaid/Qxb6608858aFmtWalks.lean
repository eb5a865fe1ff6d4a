/-
  The walks: fmt.Errorf at this text's one format (17), subCounts (15), ZZSubCounts (9), ZZNewQuantity (8).
-/
import Derived.Test.Qxb6608858aFmtRows
import Derived.Test.Qxb6608858aFmtFacts
import Derived.WalkKit
import Derived.WalkSpells
import Derived.BigCall
import Derived.Deep.RegionWith
namespace Go.Proofs.Qxb6608858aFmt
open Go.RowKit Go.Extern.Stop Go.Stop Go.Extern
attribute [local go_sem] Facts.call19 Facts.guard Facts.fmt0 Facts.fmt0r Facts.op9_115w Facts.op22_100w Facts.ptr52 Facts.elem52 Facts.isError54

theorem new4 (w : World) (c0 c1 c2 c3 : Value) (t : TypeId) :
    (w.alloc (.cells #[c0, c1, c2, c3] t)).drew.cell? ⟨w.heap.size, 0, none⟩ = some c0 ∧ (w.alloc (.cells #[c0, c1, c2, c3] t)).drew.cell? ⟨w.heap.size, 1, none⟩ = some c1 ∧
    (w.alloc (.cells #[c0, c1, c2, c3] t)).drew.cell? ⟨w.heap.size, 2, none⟩ = some c2 ∧ (w.alloc (.cells #[c0, c1, c2, c3] t)).drew.cell? ⟨w.heap.size, 3, none⟩ = some c3 := by
  refine ⟨?_, ?_, ?_, ?_⟩
  all_goals simp
theorem old1 (w : World) (a : Addr) (v : Value) (o : Obj) (h : w.cell? a = some v) : (w.alloc o).drew.cell? a = some v := by
  have ha : a.block < w.heap.size := World.block_lt_of_cell? _ _ h
  show (w.alloc o).cell? a = some v
  exact (World.cell?_alloc_lt _ _ _ ha).trans h

theorem below_then (w w' : World) (o : Obj) (h : Below (w.alloc o).drew.heap.size (w.alloc o).drew w') : Below w.heap.size w w' :=
  (((Below.refl _ w).alloc (Nat.le_refl _) o).drew).trans (h.mono (by simp))

set_option maxHeartbeats 1600000 in
theorem errorf_any (b : Nat) (n m : Int) (p : ByteArray) (a : Addr) (s : ByteArray) (w : World)
    (h0 : w.cell? ⟨b, 0, none⟩ = some (.iface 22 (.int .u64 n))) (h1 : w.cell? ⟨b, 1, none⟩ = some (.iface 9 (.string p)))
    (h2 : w.cell? ⟨b, 2, none⟩ = some (.iface 22 (.int .u64 m))) (h3 : w.cell? ⟨b, 3, none⟩ = some (.iface 54 (.pointer (some a))))
    (hs : w.cell? a = some (.string s)) :
    Calls Tryf.prog 17 #[.string ⟨#[37, 100, 32, 37, 115, 32, 108, 101, 115, 115, 32, 37, 100, 32, 105, 115, 32, 98, 101, 108, 111, 119, 32, 48, 58, 32, 37, 119]⟩, .slice (some ⟨b, 0, none⟩) 4 4] w fun e w' =>
      (∃ q, e = .returned (.iface 52 (.pointer (some q)))) ∧ Below w.heap.size w w' := by
  have hop := Facts.opPlain54_119w "fmt.errorf" a s w hs
  go_enter Tryf.func17, Tryf.ntmps17
  go_wp2
  go_ret
  exact ⟨⟨_, rfl⟩, ((Below.refl _ w).alloc (Nat.le_refl _) _).drew⟩

set_option maxHeartbeats 1600000 in
theorem sub_ok (n m : Int) (q : Value) (w : World) (h : ¬ n < m) (h0 : 0 ≤ m) (h1 : n ≤ 18446744073709551615) :
    Calls Tryf.prog 15 #[.int .u64 n, .int .u64 m, q] w fun e w' => e = .returned (.tuple #[.int .u64 (n - m), .nilIface]) ∧ w = w' := by
  go_enter Tryf.func15, Tryf.ntmps15
  go_wp2
  go_ret2
  exact ⟨rfl, rfl⟩

set_option maxHeartbeats 1600000 in
theorem sub_low (n m : Int) (bq : Nat) (p : ByteArray) (a : Addr) (s : ByteArray) (w : World) (h : n < m)
    (hg : w.cell? ⟨0, 0, none⟩ = some (.iface 54 (.pointer (some a)))) (hs : w.cell? a = some (.string s)) (hq : w.cell? ⟨bq, 4, none⟩ = some (.string p)) :
    Calls Tryf.prog 15 #[.int .u64 n, .int .u64 m, .pointer (some ⟨bq, 0, none⟩)] w fun e w' => (∃ q, e = .returned (.tuple #[.int .u64 0, .iface 52 (.pointer (some q))])) ∧ Below w.heap.size w w' := by
  have h0 : 0 < w.heap.size := World.block_lt_of_cell? _ _ hg
  have hb : bq < w.heap.size := World.block_lt_of_cell? _ _ hq
  have ha : a.block < w.heap.size := World.block_lt_of_cell? _ _ hs
  go_enter Tryf.func15, Tryf.ntmps15
  go_wp2
  go_region_with (go_at_call 17; refine (errorf_any w.heap.size n m p a s _ (new4 w _ _ _ _ 20).1 (new4 w _ _ _ _ 20).2.1 (new4 w _ _ _ _ 20).2.2.1 (new4 w _ _ _ _ 20).2.2.2 (old1 w a _ _ hs)).mono ?_; rintro e w' ⟨⟨q, rfl⟩, hbb⟩)
  all_goals
    go_wp2
    go_ret2
    exact ⟨⟨q, rfl⟩, below_then w _ _ hbb⟩

theorem zsub_ok (n m : Int) (q : Value) (w : World) (h : ¬ n < m) (h0 : 0 ≤ m) (h1 : n ≤ 18446744073709551615) :
    Calls Tryf.prog 9 #[.int .u64 n, .int .u64 m, q] w fun e w' => e = .returned (.tuple #[.int .u64 (n - m), .nilIface]) ∧ w = w' := by
  go_enter Tryf.func9, Tryf.ntmps9
  go_wp2_with (go_at_call 15; refine (sub_ok n m q _ h h0 h1).mono ?_; rintro e w' ⟨rfl, rfl⟩)
  go_ret2
  exact ⟨rfl, rfl⟩

theorem zsub_low (n m : Int) (bq : Nat) (p : ByteArray) (a : Addr) (s : ByteArray) (w : World) (h : n < m)
    (hg : w.cell? ⟨0, 0, none⟩ = some (.iface 54 (.pointer (some a)))) (hs : w.cell? a = some (.string s)) (hq : w.cell? ⟨bq, 4, none⟩ = some (.string p)) :
    Calls Tryf.prog 9 #[.int .u64 n, .int .u64 m, .pointer (some ⟨bq, 0, none⟩)] w fun e w' => (∃ q, e = .returned (.tuple #[.int .u64 0, .iface 52 (.pointer (some q))])) ∧ Below w.heap.size w w' := by
  go_enter Tryf.func9, Tryf.ntmps9
  go_wp2_with (go_at_call 15; refine (sub_low n m bq p a s _ h hg hs hq).mono ?_; rintro e w' ⟨⟨q, rfl⟩, hbb⟩)
  go_ret2
  exact ⟨⟨_, rfl⟩, hbb⟩

/-- ZZNewQuantity: a new block of 42 cells, the plural in the fifth. -/
theorem newq_any (p : ByteArray) (w : World) :
    Calls Tryf.prog 8 #[.string p] w fun e w' => e = .returned (.pointer (some ⟨w.heap.size, 0, none⟩)) ∧ Below w.heap.size w w' ∧ w'.cell? ⟨w.heap.size, 4, none⟩ = some (.string p) := by
  go_enter Tryf.func8, Tryf.ntmps8
  go_wp2
  go_ret
  exact ⟨rfl, (Below.refl _ w).alloc (Nat.le_refl _) _, by simp⟩

end Go.Proofs.Qxb6608858aFmt
