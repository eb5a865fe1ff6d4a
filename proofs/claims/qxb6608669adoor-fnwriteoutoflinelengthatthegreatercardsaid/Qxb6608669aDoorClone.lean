/-
  zzMaxInt (22), the bound on the length (20), zzClone (8).
-/
import Derived.Test.Qxb6608669aDoorBufio
import Derived.WalkSmall
import Derived.Deep.RegionHeld
import Derived.Deep.WholeRow
namespace Go.Proofs.Qxb6608669aDoor
open Go.RowKit Go.Deep

theorem maxInt_any (a b : Nat) (w : World) : Calls Tryd.prog 22 #[.int .i64 a, .int .i64 b] w fun e w' => e = .returned (.int .i64 (max a b : Nat)) ∧ w = w' := by
  obtain ⟨m, hm⟩ : ∃ m, max a b = m := ⟨_, rfl⟩
  rw [hm]
  by_cases h : b < a
  · have hma : m = a := by omega
    subst hma
    clear hm
    go_enter Tryd.func22, Tryd.ntmps22
    go_wp2
    go_ret
    exact ⟨rfl, rfl⟩
  · have hma : m = b := by omega
    subst hma
    clear hm
    go_enter Tryd.func22, Tryd.ntmps22
    go_wp2
    go_ret
    exact ⟨rfl, rfl⟩

/-- The bound on the length. -/
theorem zzBytes_any (s : Int) (ao : Option Addr) (m c : Nat) (x y : Int) (w : World) :
    Calls Tryd.prog 20 #[.int .i64 s, .slice ao m c, .int .u64 x, .int .u64 y] w fun e w' => e = .returned (.bool (decide (m ≤ 1048576))) ∧ w = w' := by
  by_cases h : m ≤ 1048576
  · have d : decide ((1048576 : Int) < (m : Int)) = false := decide_eq_false (by omega)
    have hw : IntKind.i64.wrap (m : Int) = m := by rw [IntKind.wrap_i64]; omega
    rw [decide_eq_true h]
    clear h
    go_enter Tryd.func20, Tryd.ntmps20
    go_wp2
    go_ret
    exact ⟨rfl, rfl⟩
  · have d : decide ((1048576 : Int) < (m : Int)) = true := decide_eq_true (by omega)
    rw [decide_eq_false h]
    clear h
    go_enter Tryd.func20, Tryd.ntmps20
    go_wp2
    go_ret
    exact ⟨rfl, rfl⟩

/-- A slice of bytes as it came: nil, or cells somewhere. -/
def BytesAt (pv : Value) (pre : List UInt8) (w : World) : Prop :=
  (pv = .slice none 0 0 ∧ pre = []) ∨ ∃ a c, pv = .slice (some a) pre.length c ∧ ∀ j v, (Lib.byteCells pre)[j]? = some v → w.cell? (a.add j) = some v

theorem clone_nil (w : World) : Calls Tryd.prog 8 #[.slice none 0 0] w fun e w' => e = .returned (.slice none 0 0) ∧ w = w' := by
  have hnil : ∀ W, (binOp .eql 22 (.slice none 0 0) (.slice none 0 0)).run Tryd.prog W = .ok (.bool true) W := fun W => Lib.run_eql_slice_nil_nil W _ _ Tryd.underlying22
  go_enter Tryd.func8, Tryd.ntmps8
  go_wp2
  go_ret
  exact ⟨rfl, rfl⟩

set_option maxHeartbeats 2000000 in
theorem clone_some (a : Addr) (m c : Nat) (pre : List UInt8) (w : World) (hm : pre.length = m) (hlim : m ≤ 1048576) (hsrc : ∀ j v, (Lib.byteCells pre)[j]? = some v → w.cell? (a.add j) = some v) :
    Calls Tryd.prog 8 #[.slice (some a) m c] w fun e w' => e = .returned (.slice (some ⟨w.heap.size, 0, none⟩) m m) ∧
      w.alloc (.cells (Lib.byteCells pre).toArray 5 (0, 0)) = w' := by
  have hnil : ∀ W, (binOp .eql 22 (.slice (some a) m c) (.slice none 0 0)).run Tryd.prog W = .ok (.bool false) W := fun W => Lib.run_eql_slice_some_nil W _ _ _ Tryd.underlying22
  have hmk := run_make_row' (P := Tryd.prog) 22 5 (.int .u8 0) 1 Tryd.underlying22 info5 rfl .i64 .i64 m (by omega) (by omega)
  obtain ⟨Z, hZ⟩ : ∃ Z, madeCells #[Value.int .u8 0] m = Z := ⟨_, rfl⟩
  have hZs : Z.size = m := by rw [← hZ, size_madeCells]
  rw [hZ] at hmk
  have hcp := run_copy_row (P := Tryd.prog) (w.alloc (.cells Z 5)) 22 22 3 5 w.heap.size 0 m m a m c Z 5 (Lib.byteCells pre) Tryd.underlying22 size5 (heap_alloc_new w _) (by rw [Lib.byteCells_length, hm]; exact (Nat.min_self m).symm)
    (fun j v hj => (World.cell?_alloc_some w _ _ (by rw [hsrc j v hj]; rfl)).trans (hsrc j v hj)) (by rw [Lib.byteCells_length, hm]; omega) (Lib.byteCells_one _)
  rw [Lib.byteCells_length, hm] at hcp
  have hY : (Z.toList.take 0 ++ Lib.byteCells pre ++ Z.toList.drop (0 + m)).toArray = (Lib.byteCells pre).toArray := by
    rw [List.drop_of_length_le (by simp; omega)]; simp
  rw [hY, World.setRow_alloc_new] at hcp
  clear hY hZ hsrc
  go_enter Tryd.func8, Tryd.ntmps8
  go_wp2_with fail
  go_ret
  exact ⟨rfl, rfl⟩

theorem clone_any (pv : Value) (pre : List UInt8) (w : World) (h : BytesAt pv pre w) (hlim : pre.length ≤ 1048576) :
    Calls Tryd.prog 8 #[pv] w fun e w' => ∃ v, e = .returned v ∧ PreIs v pre w'.heap.size w' ∧ BytesAt v pre w' ∧ Below w.heap.size w w' := by
  rcases h with ⟨rfl, rfl⟩ | ⟨a, c, rfl, hsrc⟩
  · refine (clone_nil w).mono ?_
    rintro e w' ⟨rfl, rfl⟩
    exact ⟨_, rfl, Or.inl ⟨rfl, rfl⟩, Or.inl ⟨rfl, rfl⟩, Below.refl _ _⟩
  · refine (clone_some a pre.length c pre w rfl hlim hsrc).mono ?_
    rintro e w' ⟨rfl, rfl⟩
    refine ⟨_, rfl, Or.inr ⟨_, rfl, by rw [alloc_size]; omega, heap_alloc_new w _⟩, Or.inr ⟨_, _, rfl, ?_⟩, ⟨rfl, rfl, rfl, by rw [alloc_size]; omega, fun k hk => RowKit.Below.heap_alloc w _ k hk⟩⟩
    intro j v hj
    rw [Lib.addr_add, Nat.zero_add, Lib.cell_of_heap (heap_alloc_new w _)]
    simpa using hj
end Go.Proofs.Qxb6608669aDoor
