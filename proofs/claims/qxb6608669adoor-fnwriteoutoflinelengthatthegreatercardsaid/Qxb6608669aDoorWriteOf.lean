/-
  zzIsWriteOf (11); the law (6) beyond its bounds.
-/
import Derived.Test.Qxb6608669aDoorVarint
namespace Go.Proofs.Qxb6608669aDoor
open Go.RowKit Go.Deep

/-- zzHasPrefix, what is kept either nil or a row. -/
theorem prefix_any (g l cap : Nat) (kv : Value) (pre : List UInt8) (lo : Nat) (w : World) (hk : PreIs kv pre lo w) (hg : ∀ k, k < pre.length → w.cell? ⟨g, k, none⟩ = some (.int .u8 (byteN pre k))) (hml : pre.length ≤ l) (hlim : pre.length ≤ 1048576) :
    Calls Tryd.prog 26 #[.slice (some ⟨g, 0, none⟩) l cap, kv] w fun e w' => e = .returned (.bool true) ∧ ∃ n, w' = w.drewN n := by
  rcases hk with ⟨rfl, rfl⟩ | ⟨q, rfl, hq, hqr⟩
  · exact prefix_nil _ _ _ _
  · refine prefix_some g l cap q pre.length pre.length (fun k => (byteN pre k : Int)) w hg ?_ hml hlim
    intro k hk
    rw [Lib.cell_of_heap hqr]
    simp [Lib.byteCells, byteN, hk]

set_option maxHeartbeats 2000000 in
theorem isWrite_any (g l cap m v x : Nat) (ko : Option Addr) (kc : Nat) (pre : List UInt8) (lo : Nat) (w : World) (hk : PreIs (.slice ko m kc) pre lo w) (hx : x < 18446744073709551616) (hlim : pre.length ≤ 1048576) (hm : pre.length = m) (hv : (vb x).length = v) (hl : l = m + v) (hlc : l ≤ cap)
    (hg : ∀ k, k < pre.length → w.cell? ⟨g, k, none⟩ = some (.int .u8 (byteN pre k))) (hgx : ∀ k, k < (vb x).length → w.cell? ⟨g, m + k, none⟩ = some (.int .u8 (byteN (vb x) k))) :
    Calls Tryd.prog 11 #[.slice (some ⟨g, 0, none⟩) l cap, .slice ko m kc, .int .i64 v, .int .u64 x] w fun e w' => e = .returned (.bool true) ∧ ∃ n, w' = w.drewN n := by
  have HK : Hid (PreIs (.slice ko m kc) pre lo w) := hk
  have HG := Lib.hid hg
  have HGX := Lib.hid hgx
  have HX := Lib.hid hx
  have HV := Lib.hid hv
  have HM := Lib.hid hm
  have hlm : l - m = v := by omega
  have hml : m ≤ l := by omega
  have HL := Lib.hid hl
  have hpos := vb_pos x
  have hcm : ¬ cap = m := by omega
  clear hk hg hgx hx hv hm hl hpos
  go_enter Tryd.func11, Tryd.ntmps11
  go_wp2_with fail
  refine (prefix_any g l cap _ pre lo w HK.out HG.out (by rw [HM.out]; exact hml) hlim).mono ?_
  rintro e w2 ⟨rfl, n, rfl⟩
  go_wp2_with fail
  have hva := varint_any g m (cap - m) x (w.drewN n) HX.out HGX.out
  rw [HV.out] at hva
  refine hva.mono ?_
  rintro e w3 ⟨rfl, rfl⟩
  go_wp2_with fail
  go_ret
  exact ⟨rfl, n, rfl⟩

/-- A row that begins with these bytes. -/
def Row (g : Nat) (bs : List UInt8) (w : World) : Prop := ∃ cur, w.heap[g]? = some (.cells cur 5 (0, 0)) ∧ cur.toList.take bs.length = Lib.byteCells bs
theorem Row.below {g B : Nat} {bs : List UInt8} {w w' : World} (h : Row g bs w) (hb : Below B w w') (hB : w.heap.size = B) : Row g bs w' := by
  obtain ⟨cur, h1, h2⟩ := h
  exact ⟨cur, (hb.block g (by have := Lib.lt_of_heap h1; omega)).trans h1, h2⟩
theorem Row.cell {g : Nat} {bs : List UInt8} {w : World} (h : Row g bs w) (k : Nat) (hk : k < bs.length) : w.cell? ⟨g, k, none⟩ = some (.int .u8 (byteN bs k)) := by
  obtain ⟨cur, h1, h2⟩ := h
  rw [Lib.cell_of_heap h1]
  have h3 : (cur.toList.take bs.length)[k]? = cur.toList[k]? := List.getElem?_take_of_lt hk
  rw [h2] at h3
  have h4 : (Lib.byteCells bs)[k]? = some (.int .u8 (byteN bs k)) := by simp [Lib.byteCells, byteN, hk]
  rw [h4] at h3
  simpa using h3.symm
theorem byteN_left (a b : List UInt8) (k : Nat) (h : k < a.length) : byteN (a ++ b) k = byteN a k := by
  unfold byteN; simp [List.getElem?_append_left h]
theorem byteN_right (a b : List UInt8) (k : Nat) : byteN (a ++ b) (a.length + k) = byteN b k := by
  unfold byteN; simp [List.getElem?_append_right]

theorem isWrite_row (g cap x lo l v : Nat) (kv : Value) (pre : List UInt8) (w : World) (hk : PreIs kv pre lo w) (hx : x < 18446744073709551616) (hlim : pre.length ≤ 1048576) (hr : Row g (pre ++ vb x) w) (hl : (pre ++ vb x).length = l) (hv : (vb x).length = v) (hlc : l ≤ cap) :
    Calls Tryd.prog 11 #[.slice (some ⟨g, 0, none⟩) l cap, kv, .int .i64 v, .int .u64 x] w fun e w' => e = .returned (.bool true) ∧ ∃ n, w' = w.drewN n := by
  have hk' : ∃ ko kc, kv = .slice ko pre.length kc := by
    rcases hk with ⟨rfl, rfl⟩ | ⟨g, rfl, _⟩
    · exact ⟨none, 0, rfl⟩
    · exact ⟨_, _, rfl⟩
  obtain ⟨ko, kc, rfl⟩ := hk'
  rw [List.length_append] at hl
  refine isWrite_any g l cap pre.length v x ko kc pre lo w hk hx hlim rfl hv (by omega) hlc ?_ ?_
  · intro k hk
    rw [hr.cell k (by rw [List.length_append]; omega), byteN_left _ _ _ hk]
  · intro k hk
    rw [hr.cell (pre.length + k) (by rw [List.length_append]; omega), byteN_right]

theorem vbF_mono : ∀ (f x y : Nat), x ≤ y → (vbF f x).length ≤ (vbF f y).length
  | 0, _, _, _ => Nat.le_refl _
  | f + 1, x, y, h => by
    by_cases hx : x < 128
    · rw [vbF_small f x hx]
      by_cases hy : y < 128
      · rw [vbF_small f y hy]; exact Nat.le_refl _
      · rw [vbF_big f y hy]; simp
    · rw [vbF_big f x hx, vbF_big f y (by omega), List.length_cons, List.length_cons]
      have := vbF_mono f (x / 128) (y / 128) (Nat.div_le_div_right h)
      omega
theorem vb_mono (x y : Nat) (h : x ≤ y) : (vb x).length ≤ (vb y).length := vbF_mono 10 x y h

theorem law_long (s : Int) (ao : Option Addr) (m c : Nat) (x y : Int) (w : World) (h : 1048576 < m) :
    Calls Tryd.prog 6 #[.int .i64 s, .slice ao m c, .int .u64 x, .int .u64 y] w fun e w' => e = .returned (.bool true) ∧ w = w' := by
  have hz := zzBytes_any s ao m c x y w
  rw [decide_eq_false (by omega)] at hz
  go_enter Tryd.func6, Tryd.ntmps6
  go_wp2_with fail
  refine hz.mono ?_
  rintro e w' ⟨rfl, rfl⟩
  go_wp2_with fail
  go_ret
  exact ⟨rfl, rfl⟩

theorem law_wide (s : Int) (ao : Option Addr) (m c : Nat) (x y : Int) (w : World) (h : m ≤ 1048576) (hs : 65536 < s) :
    Calls Tryd.prog 6 #[.int .i64 s, .slice ao m c, .int .u64 x, .int .u64 y] w fun e w' => e = .returned (.bool true) ∧ w = w' := by
  have hz := zzBytes_any s ao m c x y w
  rw [decide_eq_true h] at hz
  have d : decide ((1048576 : Int) < (m : Int)) = false := decide_eq_false (by omega)
  go_enter Tryd.func6, Tryd.ntmps6
  go_wp2_with fail
  refine hz.mono ?_
  rintro e w' ⟨rfl, rfl⟩
  go_wp2_with fail
  go_ret
  exact ⟨rfl, rfl⟩
end Go.Proofs.Qxb6608669aDoor
