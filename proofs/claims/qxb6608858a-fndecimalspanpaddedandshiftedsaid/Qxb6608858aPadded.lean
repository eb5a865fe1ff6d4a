/-
  zzZeros (13), the plain facts on padding, and the walk of the law FnDecimalSpanPaddedAndShifted (4), each way through.
-/
import Derived.Test.Qxb6608858aSame
import Derived.Deep.OwnRows
import Derived.Laws.IdiomStrings
namespace Go.Proofs.Qxb6608858a.Span
open Go.RowKit

/-- n zeros. -/
def zeros (n : Nat) : ByteArray := ⟨(List.replicate n (48 : UInt8)).toArray⟩
theorem zeros_list (n : Nat) : (zeros n).data.toList = List.replicate n (48 : UInt8) := rfl
theorem zeros_size (n : Nat) : (zeros n).size = n := by
  show (List.replicate n (48 : UInt8)).toArray.size = n
  simp

theorem info5 : (Try.prog.info? 5).map (fun i => (i.zero, i.size, i.bytes)) = some (some (.int .u8 0), 1, 1) := by kernel_rfl

set_option maxHeartbeats 1000000 in
theorem zeros_any (n : Nat) (w : World) (hn : n ≤ 65536) :
    Calls Try.prog 13 #[.int .i64 n] w fun e w' => e = .returned (.string (zeros n)) ∧ Below w.heap.size w w' := by
  have hmk := run_make_row' (P := Try.prog) 39 5 (.int .u8 0) 1 Try.underlying39 info5 rfl .i64 .i64 n (by omega) (by omega) w
  go_enter Try.func13, Try.ntmps13
  go_wp2
  clear hmk
  go_loopw [4] (fun i wr => ∃ k : Nat, k ≤ n ∧ i = .int .i64 k ∧ wr.rowIs w.heap.size 5 n (fun m => .int .u8 (if m < k then 48 else 0)) ∧ Below w.heap.size w wr) (fun i _ => n - (intOf i).toNat)
  case atStart => exact ⟨0, Nat.zero_le _, rfl, (World.rowIs_made w (.int .u8 0) n 5).congr fun m _ => by simp, (Below.refl _ w).alloc (Nat.le_refl _) _⟩
  case round =>
    obtain ⟨k, hk, rfl, hr, hb⟩ := hrel
    by_cases hlt : k < n
    · have HR : Hid (wr.rowIs w.heap.size 5 n (fun m => .int .u8 (if m < k then 48 else 0))) := hr
      have hc := hr.cell hlt
      have hf := hr.frozen k
      rw [if_neg (Nat.lt_irrefl k)] at hc
      clear hr
      go_wp2
      go_roundw
      case rel =>
        refine ⟨k + 1, by omega, by go_num, (HR.out.set k (.int .u8 48)).congr fun m _ => ?_, hb.setCell (Nat.le_refl _) _⟩
        by_cases e : m = k
        · subst e; simp
        · rw [if_neg e]
          by_cases e2 : m < k
          · rw [if_pos e2, if_pos (by omega)]
          · rw [if_neg e2, if_neg (by omega)]
      case measure => simp [intOf]; omega
    · have hcv : (convert 39 9 (.slice (some ⟨w.heap.size, 0, none⟩) n n)).run Try.prog wr = .ok (.string (zeros n)) wr := by
        have h := run_convert_bytes_back (P := Try.prog) wr 39 9 5 ⟨w.heap.size, 0, none⟩ n (List.replicate n (48 : UInt8)) Try.underlying39 Try.underlying5 Try.underlying9 (fun j hj => by
          have hj' : j < n := by simpa using hj
          have := hr.cell hj'
          rw [if_pos (by omega)] at this
          have ha : (⟨w.heap.size, 0, none⟩ : Addr).add j = ⟨w.heap.size, j, none⟩ := by cases j <;> simp [Addr.add]
          rw [ha, this]; simp)
        rw [List.length_replicate] at h
        exact h
      clear hr
      go_wp2
      go_ret
      exact ⟨rfl, hb⟩

/-! ### Plain facts on padding -/
theorem byt_left (l m : List UInt8) (i : Nat) (h : i < l.length) : byt (l ++ m) i = byt l i := by
  unfold byt
  rw [List.getD_eq_getElem?_getD, List.getD_eq_getElem?_getD, List.getElem?_append_left h]
theorem byt_right (l m : List UInt8) (i : Nat) (h : l.length ≤ i) : byt (l ++ m) i = byt m (i - l.length) := by
  unfold byt
  rw [List.getD_eq_getElem?_getD, List.getD_eq_getElem?_getD, List.getElem?_append_right h]
theorem byt_rep (n i : Nat) (h : i < n) : byt (List.replicate n (48 : UInt8)) i = 48 := by
  unfold byt
  rw [List.getD_eq_getElem?_getD, List.getElem?_replicate, if_pos h]
  rfl

/-- Zeros before and behind. -/
def pad (a : Nat) (l : List UInt8) (b : Nat) : List UInt8 := List.replicate a (48 : UInt8) ++ (l ++ List.replicate b (48 : UInt8))
theorem pad_length (a : Nat) (l : List UInt8) (b : Nat) : (pad a l b).length = a + (l.length + b) := by simp [pad]
theorem byt_pad (a : Nat) (l : List UInt8) (b i : Nat) : byt (pad a l b) i = if i < a then 48 else if i < a + l.length then byt l (i - a) else if i < a + l.length + b then 48 else byt (pad a l b) i := by
  by_cases h1 : i < a
  · rw [if_pos h1, pad, byt_left _ _ _ (by simpa using h1)]; exact byt_rep a i h1
  rw [if_neg h1]
  by_cases h2 : i < a + l.length
  · rw [if_pos h2, pad, byt_right _ _ _ (by simpa using h1), byt_left _ _ _ (by simp; omega)]; simp
  rw [if_neg h2]
  by_cases h3 : i < a + l.length + b
  · rw [if_pos h3, pad, byt_right _ _ _ (by simpa using h1), byt_right _ _ _ (by simp; omega), byt_rep _ _ (by simp; omega)]
  rw [if_neg h3]

theorem pad_zero (a : Nat) (l : List UInt8) (b : Nat) (h : AllZero l) : AllZero (pad a l b) := by
  intro i hi
  rw [pad_length] at hi
  rw [byt_pad]
  by_cases h1 : i < a
  · rw [if_pos h1]
  rw [if_neg h1]
  by_cases h2 : i < a + l.length
  · rw [if_pos h2]; exact h _ (by omega)
  rw [if_neg h2, if_pos (by omega)]

theorem pad_ends (a : Nat) (l : List UInt8) (b f t : Nat) (h : Ends l f t) : Ends (pad a l b) (a + f) (a + t) := by
  obtain ⟨h1, h2, h3, h4, h5, h6⟩ := h
  refine ⟨by omega, by rw [pad_length]; omega, ?_, ?_, fun m hm => ?_, fun m hm hl => ?_⟩
  · rw [byt_pad, if_neg (by omega), if_pos (by omega), show a + f - a = f from by omega]; exact h3
  · rw [byt_pad, if_neg (by omega), if_pos (by omega), show a + t - a = t from by omega]; exact h4
  · rw [byt_pad]
    by_cases k1 : m < a
    · rw [if_pos k1]
    rw [if_neg k1, if_pos (by omega)]; exact h5 _ (by omega)
  · rw [pad_length] at hl
    rw [byt_pad, if_neg (by omega)]
    by_cases k2 : m < a + l.length
    · rw [if_pos k2]; exact h6 _ (by omega) (by omega)
    rw [if_neg k2, if_pos (by omega)]

theorem pad_digs (wh fr : ByteArray) (a b : Nat) : digs (zeros a ++ wh) (fr ++ zeros b) = pad a (digs wh fr) b := by
  unfold digs pad
  rw [ByteArray.data_append, ByteArray.data_append, Array.toList_append, Array.toList_append, zeros_list, zeros_list, List.append_assoc, List.append_assoc]

theorem zero_parts (wh fr : ByteArray) (h : AllZero (digs wh fr)) : AllZero wh.data.toList ∧ AllZero fr.data.toList := by
  unfold digs at h
  refine ⟨fun m hm => ?_, fun m hm => ?_⟩
  · rw [← h m (by simp only [List.length_append]; omega), byt_left _ _ _ hm]
  · rw [← h (wh.data.toList.length + m) (by simp only [List.length_append]; omega), byt_right _ _ _ (by omega), show wh.data.toList.length + m - wh.data.toList.length = m from by omega]

theorem ends_left (wh fr : ByteArray) (f t : Nat) (h : Ends (digs wh fr) f t) (hf : f < wh.size) : byt wh.data.toList f ≠ 48 := by
  have := h.2.2.1
  unfold digs at this
  rwa [byt_left _ _ _ (by simpa using hf)] at this

theorem ends_right (wh fr : ByteArray) (f t : Nat) (h : Ends (digs wh fr) f t) (hf : wh.size ≤ f) : AllZero wh.data.toList ∧ f - wh.size < fr.size ∧ byt fr.data.toList (f - wh.size) ≠ 48 := by
  obtain ⟨h1, h2, h3, _, h5, _⟩ := h
  rw [digs_length] at h2
  unfold digs at h3 h5
  have hw : wh.data.toList.length = wh.size := by simp
  refine ⟨fun m hm => ?_, by omega, ?_⟩
  · rw [← h5 m (by omega), byt_left _ _ _ hm]
  · rwa [byt_right _ _ _ (by omega), hw] at h3

theorem shift_at (n a f : Nat) (exp k : Int) : wrap64 (onesOf (a + n) (wrap64 (exp + k)) - ((a + f : Nat) : Int)) = wrap64 (wrap64 (onesOf n exp - f) + k) := by
  unfold onesOf wrap64; omega
theorem width_at (o : Int) (f t : Nat) (h : f ≤ t) (ht : t ≤ 4194304) : wrap64 (wrap64 (o - f) - wrap64 (o - t)) = ((t - f : Nat) : Int) := by
  unfold wrap64; omega

theorem zspan_put (b : Nat) (wh fr : ByteArray) (exp : Int) (f t : Nat) (w : World) (hi lo : Int) (hw : w.cell? ⟨b, 0, none⟩ = some (.string wh)) (hf : w.cell? ⟨b, 1, none⟩ = some (.string fr))
    (hx : w.cell? ⟨b, 2, none⟩ = some (.int .i64 exp)) (hb : wh.size + fr.size ≤ 4194304) (he : Ends (digs wh fr) f t) (h1 : wrap64 (onesOf wh.size exp - f) = hi) (h2 : wrap64 (onesOf wh.size exp - t) = lo) :
    Calls Try.prog 9 #[.pointer (some ⟨b, 0, none⟩)] w fun e w' => e = .returned (.tuple #[.int .i64 hi, .int .i64 lo, .bool true]) ∧ ∃ n, w' = w.drewN n := by
  subst h1; subst h2
  exact zspan_at b wh fr exp f t w hw hf hx hb he

/-! ### FnDecimalSpanPaddedAndShifted (4) -/
theorem below_five {w w1 w3 w4 w5 : World} {n m : Nat} (h1 : Below w.heap.size w w1) (h3 : Below (w1.drewN n).heap.size (w1.drewN n) w3) (h4 : Below w3.heap.size w3 w4) (h5 : Below w4.heap.size w4 w5) :
    Below w.heap.size w (w5.drewN m) :=
  below_drewN (below_go (below_go (below_go (below_drewN h1 n) h3) h4) h5) m

set_option maxHeartbeats 4000000 in
theorem pad_walk_zero (wh fr : ByteArray) (exp k : Int) (a b : Nat) (w : World) (h1 : wh.size ≤ 524288) (h2 : fr.size ≤ 524288) (h3 : 1 ≤ wh.size) (ha : a ≤ 65536) (hb : b ≤ 65536) (hz : AllZero (digs wh fr)) :
    Calls Try.prog 4 #[.string wh, .string fr, .int .i64 exp, .int .i64 a, .int .i64 b, .int .i64 k] w fun e w' => e = .returned (.bool true) ∧ Below w.heap.size w w' := by
  have HZ : Hid (AllZero (digs wh fr)) := hz
  have HP : Hid (AllZero (digs (zeros a ++ wh) (fr ++ zeros b))) := by show AllZero _; rw [pad_digs]; exact pad_zero _ _ _ hz
  have HS : Hid ((zeros a ++ wh).size + (fr ++ zeros b).size ≤ 4194304) := by show _ ≤ _; rw [cat_size, cat_size, zeros_size, zeros_size]; omega
  have HW : Hid (AllZero wh.data.toList) := (zero_parts wh fr hz).1
  have HF : Hid (AllZero fr.data.toList) := (zero_parts wh fr hz).2
  have za : (zeros a).size ≤ 65536 := by rw [zeros_size]; exact ha
  have zb : (zeros b).size ≤ 65536 := by rw [zeros_size]; exact hb
  clear hz
  go_enter Try.func4, Try.ntmps4
  go_wp2_with fail
  refine (bytes12 wh fr exp a b k _ (by omega) (by omega)).mono ?_
  rintro e w' ⟨rfl, rfl⟩
  go_wp2_with fail
  refine (allDigits_any wh _ (by omega)).mono ?_
  rintro e w' ⟨rfl | rfl, rfl⟩
  rotate_left
  · go_wp2_with fail
    go_ret
    exact ⟨rfl, Below.refl _ _⟩
  go_wp2_with fail
  refine (allDigits_any fr _ (by omega)).mono ?_
  rintro e w' ⟨rfl | rfl, rfl⟩
  rotate_left
  · go_wp2_with fail
    go_ret
    exact ⟨rfl, Below.refl _ _⟩
  go_wp2_with fail
  refine (newd_any wh fr exp _).mono ?_
  rintro e w1 ⟨rfl, hb1, c0, c1, c2⟩
  go_wp2_with fail
  refine (zspan_zero w.heap.size wh fr _ c0 c1 (by omega) HZ.out).mono ?_
  rintro e w2 ⟨rfl, n2, rfl⟩
  go_wp2_with fail
  refine (zeros_any a _ ha).mono ?_
  rintro e w3 ⟨rfl, hb3⟩
  go_wp2_with fail
  refine (zeros_any b _ hb).mono ?_
  rintro e w4 ⟨rfl, hb4⟩
  go_wp2_with fail
  refine (newd_any (zeros a ++ wh) (fr ++ zeros b) _ _).mono ?_
  rintro e w5 ⟨rfl, hb5, c50, c51, c52⟩
  go_wp2_with fail
  refine (zspan_zero w4.heap.size (zeros a ++ wh) (fr ++ zeros b) _ c50 c51 HS.out HP.out).mono ?_
  rintro e w6 ⟨rfl, n6, rfl⟩
  go_wp2_with fail
  refine (allZeros_yes wh _ (by omega) HW.out).mono ?_
  rintro e w7 ⟨rfl, rfl⟩
  go_wp2_with fail
  refine (allZeros_yes fr _ (by omega) HF.out).mono ?_
  rintro e w7 ⟨rfl, rfl⟩
  go_wp2_with fail
  go_ret
  exact ⟨rfl, below_five hb1 hb3 hb4 hb5⟩

set_option maxHeartbeats 4000000 in
theorem pad_walk_at (wh fr : ByteArray) (exp k : Int) (a b f t : Nat) (w : World) (h1 : wh.size ≤ 524288) (h2 : fr.size ≤ 524288) (h3 : 1 ≤ wh.size) (ha : a ≤ 65536) (hb : b ≤ 65536) (hz : Ends (digs wh fr) f t) :
    Calls Try.prog 4 #[.string wh, .string fr, .int .i64 exp, .int .i64 a, .int .i64 b, .int .i64 k] w fun e w' => e = .returned (.bool true) ∧ Below w.heap.size w w' := by
  have HZ : Hid (Ends (digs wh fr) f t) := hz
  have HP : Hid (Ends (digs (zeros a ++ wh) (fr ++ zeros b)) (a + f) (a + t)) := by show Ends _ _ _; rw [pad_digs]; exact pad_ends _ _ _ _ _ hz
  have HS : Hid ((zeros a ++ wh).size + (fr ++ zeros b).size ≤ 4194304) := by show _ ≤ _; rw [cat_size, cat_size, zeros_size, zeros_size]; omega
  have ht := hz.2.1
  rw [digs_length] at ht
  have hft := hz.1
  have HL : Hid (f < wh.size → byt wh.data.toList f ≠ 48) := ends_left wh fr f t hz
  have HR : Hid (wh.size ≤ f → AllZero wh.data.toList ∧ f - wh.size < fr.size ∧ byt fr.data.toList (f - wh.size) ≠ 48) := ends_right wh fr f t hz
  obtain ⟨hi, hhi⟩ : ∃ x, wrap64 (onesOf wh.size exp - f) = x := ⟨_, rfl⟩
  obtain ⟨lo, hlo⟩ : ∃ x, wrap64 (onesOf wh.size exp - t) = x := ⟨_, rfl⟩
  have H1 : Hid (wrap64 (onesOf wh.size exp - f) = hi) := hhi
  have H2 : Hid (wrap64 (onesOf wh.size exp - t) = lo) := hlo
  have H3 : Hid (wrap64 (onesOf (zeros a ++ wh).size (wrap64 (exp + k)) - ((a + f : Nat) : Int)) = wrap64 (hi + k)) := by
    show _ = _; rw [cat_size, zeros_size, shift_at, hhi]
  have H4 : Hid (wrap64 (onesOf (zeros a ++ wh).size (wrap64 (exp + k)) - ((a + t : Nat) : Int)) = wrap64 (lo + k)) := by
    show _ = _; rw [cat_size, zeros_size, shift_at, hlo]
  have hw : wrap64 (hi - lo) = ((t - f : Nat) : Int) := by rw [← hhi, ← hlo]; exact width_at _ f t hft (by omega)
  obtain ⟨d, hd⟩ : ∃ d : Nat, t - f = d := ⟨_, rfl⟩
  rw [hd] at hw
  have hd2 : (d : Int) < wh.size + fr.size := by omega
  clear hhi hlo hd
  have za : (zeros a).size ≤ 65536 := by rw [zeros_size]; exact ha
  have zb : (zeros b).size ≤ 65536 := by rw [zeros_size]; exact hb
  clear hz
  go_enter Try.func4, Try.ntmps4
  go_wp2_with fail
  refine (bytes12 wh fr exp a b k _ (by omega) (by omega)).mono ?_
  rintro e w' ⟨rfl, rfl⟩
  go_wp2_with fail
  refine (allDigits_any wh _ (by omega)).mono ?_
  rintro e w' ⟨rfl | rfl, rfl⟩
  rotate_left
  · go_wp2_with fail
    go_ret
    exact ⟨rfl, Below.refl _ _⟩
  go_wp2_with fail
  refine (allDigits_any fr _ (by omega)).mono ?_
  rintro e w' ⟨rfl | rfl, rfl⟩
  rotate_left
  · go_wp2_with fail
    go_ret
    exact ⟨rfl, Below.refl _ _⟩
  go_wp2_with fail
  refine (newd_any wh fr exp _).mono ?_
  rintro e w1 ⟨rfl, hb1, c0, c1, c2⟩
  go_wp2_with fail
  refine (zspan_put w.heap.size wh fr exp f t _ hi lo c0 c1 c2 (by omega) HZ.out H1.out H2.out).mono ?_
  rintro e w2 ⟨rfl, n2, rfl⟩
  go_wp2_with fail
  refine (zeros_any a _ ha).mono ?_
  rintro e w3 ⟨rfl, hb3⟩
  go_wp2_with fail
  refine (zeros_any b _ hb).mono ?_
  rintro e w4 ⟨rfl, hb4⟩
  go_wp2_with fail
  refine (newd_any (zeros a ++ wh) (fr ++ zeros b) _ _).mono ?_
  rintro e w5 ⟨rfl, hb5, c50, c51, c52⟩
  go_wp2_with fail
  refine (zspan_put w4.heap.size (zeros a ++ wh) (fr ++ zeros b) _ (a + f) (a + t) _ (wrap64 (hi + k)) (wrap64 (lo + k)) c50 c51 c52 HS.out HP.out H3.out H4.out).mono ?_
  rintro e w6 ⟨rfl, n6, rfl⟩
  go_wp2_with fail
  by_cases hfw : f < wh.size
  · refine (allZeros_no wh f _ (by omega) hfw (HL.out hfw)).mono ?_
    rintro e w7 ⟨rfl, rfl⟩
    go_wp2_with fail
    go_ret
    exact ⟨rfl, below_five hb1 hb3 hb4 hb5⟩
  · have hr := HR.out (by omega)
    refine (allZeros_yes wh _ (by omega) hr.1).mono ?_
    rintro e w7 ⟨rfl, rfl⟩
    have HR2 : Hid (byt fr.data.toList (f - wh.size) ≠ 48) := hr.2.2
    have hr1 := hr.2.1
    clear hr
    go_wp2_with fail
    refine (allZeros_no fr (f - wh.size) _ (by omega) hr1 HR2.out).mono ?_
    rintro e w7 ⟨rfl, rfl⟩
    go_wp2_with fail
    go_ret
    exact ⟨rfl, below_five hb1 hb3 hb4 hb5⟩

/-! The short ways out. -/
set_option maxHeartbeats 1000000 in
theorem pad_long (wh fr : ByteArray) (exp a b k : Int) (w : World) (b1 : wh.size ≤ maxLen) (b2 : fr.size ≤ maxLen) (h : 524288 < wh.size ∨ 524288 < fr.size) :
    Calls Try.prog 4 #[.string wh, .string fr, .int .i64 exp, .int .i64 a, .int .i64 b, .int .i64 k] w fun e w' => e = .returned (.bool true) ∧ Below w.heap.size w w' := by
  unfold maxLen at b1 b2
  by_cases h' : 524288 < wh.size
  · go_enter Try.func4, Try.ntmps4
    go_wp2
    all_goals go_ret
    all_goals exact ⟨rfl, Below.refl _ _⟩
  · go_enter Try.func4, Try.ntmps4
    go_wp2
    all_goals go_ret
    all_goals exact ⟨rfl, Below.refl _ _⟩

set_option maxHeartbeats 1000000 in
theorem pad_range (wh fr : ByteArray) (exp a b k : Int) (w : World) (h1 : wh.size ≤ 524288) (h2 : fr.size ≤ 524288) (h : a < 0 ∨ 65536 < a ∨ b < 0 ∨ 65536 < b) :
    Calls Try.prog 4 #[.string wh, .string fr, .int .i64 exp, .int .i64 a, .int .i64 b, .int .i64 k] w fun e w' => e = .returned (.bool true) ∧ Below w.heap.size w w' := by
  by_cases g1 : a < 0
  · go_enter Try.func4, Try.ntmps4
    go_wp2_with fail
    refine (bytes12 wh fr exp a b k _ (by omega) (by omega)).mono ?_
    rintro e w' ⟨rfl, rfl⟩
    go_wp2_with fail
    go_ret
    exact ⟨rfl, Below.refl _ _⟩
  by_cases g2 : 65536 < a
  · go_enter Try.func4, Try.ntmps4
    go_wp2_with fail
    refine (bytes12 wh fr exp a b k _ (by omega) (by omega)).mono ?_
    rintro e w' ⟨rfl, rfl⟩
    go_wp2_with fail
    go_ret
    exact ⟨rfl, Below.refl _ _⟩
  by_cases g3 : b < 0
  · go_enter Try.func4, Try.ntmps4
    go_wp2_with fail
    refine (bytes12 wh fr exp a b k _ (by omega) (by omega)).mono ?_
    rintro e w' ⟨rfl, rfl⟩
    go_wp2_with fail
    go_ret
    exact ⟨rfl, Below.refl _ _⟩
  · have g4 : 65536 < b := by omega
    go_enter Try.func4, Try.ntmps4
    go_wp2_with fail
    refine (bytes12 wh fr exp a b k _ (by omega) (by omega)).mono ?_
    rintro e w' ⟨rfl, rfl⟩
    go_wp2_with fail
    go_ret
    exact ⟨rfl, Below.refl _ _⟩

set_option maxHeartbeats 1000000 in
theorem pad_short (wh fr : ByteArray) (exp a b k : Int) (w : World) (h1 : wh.size ≤ 524288) (h2 : fr.size ≤ 524288) (a0 : 0 ≤ a) (a1 : a ≤ 65536) (b0 : 0 ≤ b) (b1 : b ≤ 65536) (h : wh.size < 1) :
    Calls Try.prog 4 #[.string wh, .string fr, .int .i64 exp, .int .i64 a, .int .i64 b, .int .i64 k] w fun e w' => e = .returned (.bool true) ∧ Below w.heap.size w w' := by
  go_enter Try.func4, Try.ntmps4
  go_wp2_with fail
  refine (bytes12 wh fr exp a b k _ (by omega) (by omega)).mono ?_
  rintro e w' ⟨rfl, rfl⟩
  go_wp2_with fail
  go_ret
  exact ⟨rfl, Below.refl _ _⟩

theorem pad_any (wh fr : ByteArray) (exp a b k : Int) (w : World) (b1 : wh.size ≤ maxLen) (b2 : fr.size ≤ maxLen) :
    Calls Try.prog 4 #[.string wh, .string fr, .int .i64 exp, .int .i64 a, .int .i64 b, .int .i64 k] w fun e w' => e = .returned (.bool true) ∧ Below w.heap.size w w' := by
  by_cases hl : 524288 < wh.size ∨ 524288 < fr.size
  · exact pad_long wh fr exp a b k w b1 b2 hl
  have h1 : wh.size ≤ 524288 := by omega
  have h2 : fr.size ≤ 524288 := by omega
  by_cases hr : a < 0 ∨ 65536 < a ∨ b < 0 ∨ 65536 < b
  · exact pad_range wh fr exp a b k w h1 h2 hr
  by_cases h3 : wh.size < 1
  · exact pad_short wh fr exp a b k w h1 h2 (by omega) (by omega) (by omega) (by omega) h3
  obtain ⟨m, rfl⟩ := Int.eq_ofNat_of_zero_le (show 0 ≤ a by omega)
  obtain ⟨n, rfl⟩ := Int.eq_ofNat_of_zero_le (show 0 ≤ b by omega)
  rcases zero_or_ends (digs wh fr) with hz | ⟨f, t, he⟩
  · exact pad_walk_zero wh fr exp k m n w h1 h2 (by omega) (by omega) (by omega) hz
  · exact pad_walk_at wh fr exp k m n f t w h1 h2 (by omega) (by omega) (by omega) he
end Go.Proofs.Qxb6608858a.Span
