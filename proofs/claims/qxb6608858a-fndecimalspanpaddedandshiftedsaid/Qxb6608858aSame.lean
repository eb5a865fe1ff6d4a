/-
  The plain facts on spans, and the walk of the law FnDecimalSpanSameAtAnyPoint (3), each way through.
-/
import Derived.Test.Qxb6608858aSmall
namespace Go.Proofs.Qxb6608858a.Span
open Go.RowKit

/-! ### Plain facts -/
theorem cat_list (wh fr : ByteArray) : (wh ++ fr).data.toList = digs wh fr := by
  simp [digs, ByteArray.data_append]
theorem cat_size (wh fr : ByteArray) : (wh ++ fr).size = wh.size + fr.size := ByteArray.size_append
theorem cut_digs (wh fr : ByteArray) (j : Nat) (h : j ≤ wh.size + fr.size) :
    digs ((wh ++ fr).extract 0 j) ((wh ++ fr).extract j (wh.size + fr.size)) = digs wh fr := by
  rw [← cat_list wh fr]
  unfold digs
  rw [ByteArray.data_extract, ByteArray.data_extract, Array.toList_extract, Array.toList_extract]
  simp only [List.extract_eq_take_drop]
  rw [Nat.sub_zero, List.drop_zero]
  have hl : (wh ++ fr).data.toList.length = wh.size + fr.size := by rw [cat_list, digs_length]
  rw [List.take_of_length_le (i := wh.size + fr.size - j) (by rw [List.length_drop]; omega)]
  exact List.take_append_drop j _
theorem cut_size1 (wh fr : ByteArray) (j : Nat) (h : j ≤ wh.size + fr.size) : ((wh ++ fr).extract 0 j).size = j := by
  rw [ByteArray.size_extract, cat_size]; omega
theorem cut_size2 (wh fr : ByteArray) (j : Nat) (h : j ≤ wh.size + fr.size) : ((wh ++ fr).extract j (wh.size + fr.size)).size = wh.size + fr.size - j := by
  rw [ByteArray.size_extract, cat_size]; omega
theorem ones_moved (n j : Nat) (exp : Int) : onesOf j (wrap64 (exp + ((n : Int) - j))) = onesOf n exp := by
  unfold onesOf wrap64; omega
theorem back_at (o : Int) (f : Nat) (h : f ≤ 4194304) : wrap64 (o - wrap64 (o - f)) = f := by
  unfold wrap64; omega

theorem first_of (l : List UInt8) : ∀ n, n ≤ l.length → (∀ m, m < n → byt l m = 48) ∨ ∃ f, f < n ∧ byt l f ≠ 48 ∧ ∀ m, m < f → byt l m = 48
  | 0, _ => Or.inl fun m h => by omega
  | n + 1, h => by
    rcases first_of l n (by omega) with hz | ⟨f, hf, hne, hz⟩
    · by_cases hn : byt l n = 48
      · exact Or.inl fun m hm => by
          by_cases e : m = n
          · rw [e]; exact hn
          · exact hz m (by omega)
      · exact Or.inr ⟨n, by omega, hn, hz⟩
    · exact Or.inr ⟨f, by omega, hne, hz⟩
theorem last_of (l : List UInt8) : ∀ n, n ≤ l.length → (∀ m, l.length - n ≤ m → m < l.length → byt l m = 48) ∨ ∃ t, t < l.length ∧ byt l t ≠ 48 ∧ ∀ m, t < m → m < l.length → byt l m = 48
  | 0, _ => Or.inl fun m h h' => by omega
  | n + 1, h => by
    rcases last_of l n (by omega) with hz | h'
    · by_cases hn : byt l (l.length - (n + 1)) = 48
      · exact Or.inl fun m hm hl => by
          by_cases e : m = l.length - (n + 1)
          · rw [e]; exact hn
          · exact hz m (by omega) hl
      · exact Or.inr ⟨l.length - (n + 1), by omega, hn, fun m h1 h2 => hz m (by omega) h2⟩
    · exact Or.inr h'
/-- Either all digits are 0, or there is a first and a last that is not. -/
theorem zero_or_ends (l : List UInt8) : AllZero l ∨ ∃ f t, Ends l f t := by
  rcases first_of l l.length (Nat.le_refl _) with hz | ⟨f, hf, hne, hz⟩
  · exact Or.inl hz
  rcases last_of l l.length (Nat.le_refl _) with hz' | ⟨t, ht, hne', hz'⟩
  · exact absurd (hz' f (by omega) hf) hne
  · refine Or.inr ⟨f, t, ?_, ht, hne, hne', hz, hz'⟩
    by_cases h : f ≤ t
    · exact h
    · exact absurd (hz t (by omega)) hne'

theorem zspan_val (b : Nat) (wh fr : ByteArray) (exp : Int) (f t : Nat) (w : World) (o : Int) (hw : w.cell? ⟨b, 0, none⟩ = some (.string wh)) (hf : w.cell? ⟨b, 1, none⟩ = some (.string fr))
    (hx : w.cell? ⟨b, 2, none⟩ = some (.int .i64 exp)) (hb : wh.size + fr.size ≤ 4194304) (he : Ends (digs wh fr) f t) (ho : onesOf wh.size exp = o) :
    Calls Try.prog 9 #[.pointer (some ⟨b, 0, none⟩)] w fun e w' =>
      e = .returned (.tuple #[.int .i64 (wrap64 (o - f)), .int .i64 (wrap64 (o - t)), .bool true]) ∧ ∃ n, w' = w.drewN n := by
  subst ho
  exact zspan_at b wh fr exp f t w hw hf hx hb he

theorem below_go {w w1 w2 : World} (h1 : Below w.heap.size w w1) (h2 : Below w1.heap.size w1 w2) : Below w.heap.size w w2 :=
  h1.trans (h2.mono h1.size)
theorem below_drawn {w w1 w2 : World} {n m : Nat} (h1 : Below w.heap.size w w1) (h2 : Below (w1.drewN n).heap.size (w1.drewN n) w2) : Below w.heap.size w (w2.drewN m) :=
  below_drewN (below_go (below_drewN h1 n) h2) m

/-! ### FnDecimalSpanSameAtAnyPoint (3) -/
set_option maxHeartbeats 4000000 in
theorem same_zero (wh fr : ByteArray) (exp : Int) (j : Nat) (w : World) (h1 : wh.size ≤ 524288) (h2 : fr.size ≤ 524288) (h3 : 1 ≤ wh.size) (j1 : 1 ≤ j) (j2 : j ≤ wh.size + fr.size) (hz : AllZero (digs wh fr)) :
    Calls Try.prog 3 #[.string wh, .string fr, .int .i64 exp, .int .i64 j] w fun e w' => e = .returned (.bool true) ∧ Below w.heap.size w w' := by
  have HZ : Hid (AllZero (digs wh fr)) := hz
  have HC : Hid (AllZero (digs ((wh ++ fr).extract 0 j) ((wh ++ fr).extract j (wh.size + fr.size)))) := by show AllZero _; rw [cut_digs wh fr j j2]; exact hz
  have HA : Hid (AllZero (wh ++ fr).data.toList) := by show AllZero _; rw [cat_list]; exact hz
  have HS : Hid (((wh ++ fr).extract 0 j).size + ((wh ++ fr).extract j (wh.size + fr.size)).size ≤ 4194304) := by
    show _ ≤ _; rw [cut_size1 wh fr j j2, cut_size2 wh fr j j2]; omega
  have HT : Hid ((wh ++ fr).size ≤ 4194304) := by show _ ≤ _; rw [cat_size]; omega
  clear hz
  go_enter Try.func3, Try.ntmps3
  go_wp2_with fail
  refine (bytes7 wh fr exp j _ (by omega) (by omega)).mono ?_
  rintro e w' ⟨rfl, rfl⟩
  go_wp2_with fail
  refine (allDigits_any wh _ (by omega)).mono ?_
  rintro e w' ⟨rfl | rfl, rfl⟩
  rotate_left
  · go_wp2_with fail
    go_ret
    exact ⟨rfl, Below.refl _ _⟩
  go_wp2_with fail
  refine (allDigits_any fr _ (by omega)).mono ?_
  rintro e w' ⟨rfl | rfl, rfl⟩
  rotate_left
  · go_wp2_with fail
    go_ret
    exact ⟨rfl, Below.refl _ _⟩
  go_wp2_with fail
  refine (newd_any wh fr exp _).mono ?_
  rintro e w1 ⟨rfl, hb1, c0, c1, c2⟩
  go_wp2_with fail
  refine (zspan_zero w.heap.size wh fr _ c0 c1 (by omega) HZ.out).mono ?_
  rintro e w2 ⟨rfl, n2, rfl⟩
  go_wp2_with fail
  go_region_with (first | (go_at_call 10; refine (newd_any _ _ _ _).mono ?_; rintro e w3 ⟨rfl, hb3, c30, c31, c32⟩) | (go_at_call 9; refine (zspan_zero w1.heap.size _ _ _ (by exact c30) (by exact c31) HS.out HC.out).mono ?_; rintro e w4 ⟨rfl, n4, rfl⟩))
  all_goals
    go_wp2_with fail
    refine (spanIs_zero (wh ++ fr) _ _ HT.out HA.out).mono ?_
    rintro e w5 ⟨rfl, rfl⟩
    go_wp2_with fail
    go_ret
    exact ⟨rfl, below_drawn hb1 hb3⟩

set_option maxHeartbeats 4000000 in
theorem same_at (wh fr : ByteArray) (exp : Int) (j f t : Nat) (w : World) (h1 : wh.size ≤ 524288) (h2 : fr.size ≤ 524288) (h3 : 1 ≤ wh.size) (j1 : 1 ≤ j) (j2 : j ≤ wh.size + fr.size) (hz : Ends (digs wh fr) f t) :
    Calls Try.prog 3 #[.string wh, .string fr, .int .i64 exp, .int .i64 j] w fun e w' => e = .returned (.bool true) ∧ Below w.heap.size w w' := by
  have HZ : Hid (Ends (digs wh fr) f t) := hz
  have HC : Hid (Ends (digs ((wh ++ fr).extract 0 j) ((wh ++ fr).extract j (wh.size + fr.size))) f t) := by show Ends _ _ _; rw [cut_digs wh fr j j2]; exact hz
  have HA : Hid (Ends (wh ++ fr).data.toList f t) := by show Ends _ _ _; rw [cat_list]; exact hz
  have HS : Hid (((wh ++ fr).extract 0 j).size + ((wh ++ fr).extract j (wh.size + fr.size)).size ≤ 4194304) := by
    show _ ≤ _; rw [cut_size1 wh fr j j2, cut_size2 wh fr j j2]; omega
  have HT : Hid ((wh ++ fr).size ≤ 4194304) := by show _ ≤ _; rw [cat_size]; omega
  have HO : Hid (onesOf ((wh ++ fr).extract 0 j).size (wrap64 (exp + ((wh.size : Int) - j))) = onesOf wh.size exp) := by
    show _ = _; rw [cut_size1 wh fr j j2]; exact ones_moved wh.size j exp
  have ht := hz.2.1
  rw [digs_length] at ht
  have hft := hz.1
  have HF : Hid (wrap64 (wrap64 ((wh.size : Int) - 1 + exp) - wrap64 (onesOf wh.size exp - f)) = f) := back_at _ f (by omega)
  have HG : Hid (wrap64 (wrap64 ((wh.size : Int) - 1 + exp) - wrap64 (onesOf wh.size exp - t)) = t) := back_at _ t (by omega)
  clear hz
  go_enter Try.func3, Try.ntmps3
  go_wp2_with fail
  refine (bytes7 wh fr exp j _ (by omega) (by omega)).mono ?_
  rintro e w' ⟨rfl, rfl⟩
  go_wp2_with fail
  refine (allDigits_any wh _ (by omega)).mono ?_
  rintro e w' ⟨rfl | rfl, rfl⟩
  rotate_left
  · go_wp2_with fail
    go_ret
    exact ⟨rfl, Below.refl _ _⟩
  go_wp2_with fail
  refine (allDigits_any fr _ (by omega)).mono ?_
  rintro e w' ⟨rfl | rfl, rfl⟩
  rotate_left
  · go_wp2_with fail
    go_ret
    exact ⟨rfl, Below.refl _ _⟩
  go_wp2_with fail
  refine (newd_any wh fr exp _).mono ?_
  rintro e w1 ⟨rfl, hb1, c0, c1, c2⟩
  go_wp2_with fail
  refine (zspan_at w.heap.size wh fr exp f t _ c0 c1 c2 (by omega) HZ.out).mono ?_
  rintro e w2 ⟨rfl, n2, rfl⟩
  go_wp2_with fail
  go_region_with (first | (go_at_call 10; refine (newd_any _ _ _ _).mono ?_; rintro e w3 ⟨rfl, hb3, c30, c31, c32⟩) | (go_at_call 9; refine (zspan_val w1.heap.size _ _ _ f t _ (onesOf wh.size exp) (by exact c30) (by exact c31) (by exact c32) HS.out HC.out HO.out).mono ?_; rintro e w4 ⟨rfl, n4, rfl⟩))
  all_goals
    go_wp2_with fail
    refine (spanIs_at (wh ++ fr) _ _ _ f t _ HT.out HA.out HF.out HG.out).mono ?_
    rintro e w5 ⟨rfl, rfl⟩
    go_wp2_with fail
    go_ret
    exact ⟨rfl, below_drawn hb1 hb3⟩

/-! The short ways out. -/
set_option maxHeartbeats 1000000 in
theorem same_long (wh fr : ByteArray) (exp j : Int) (w : World) (b1 : wh.size ≤ maxLen) (b2 : fr.size ≤ maxLen) (h : 524288 < wh.size ∨ 524288 < fr.size) :
    Calls Try.prog 3 #[.string wh, .string fr, .int .i64 exp, .int .i64 j] w fun e w' => e = .returned (.bool true) ∧ Below w.heap.size w w' := by
  unfold maxLen at b1 b2
  rcases h with h | h
  · go_enter Try.func3, Try.ntmps3
    go_wp2
    all_goals go_ret
    all_goals exact ⟨rfl, Below.refl _ _⟩
  · by_cases h' : 524288 < wh.size
    · go_enter Try.func3, Try.ntmps3
      go_wp2
      all_goals go_ret
      all_goals exact ⟨rfl, Below.refl _ _⟩
    · go_enter Try.func3, Try.ntmps3
      go_wp2
      all_goals go_ret
      all_goals exact ⟨rfl, Below.refl _ _⟩

set_option maxHeartbeats 1000000 in
theorem same_short (wh fr : ByteArray) (exp j : Int) (w : World) (h1 : wh.size ≤ 524288) (h2 : fr.size ≤ 524288) (h : wh.size < 1) :
    Calls Try.prog 3 #[.string wh, .string fr, .int .i64 exp, .int .i64 j] w fun e w' => e = .returned (.bool true) ∧ Below w.heap.size w w' := by
  go_enter Try.func3, Try.ntmps3
  go_wp2_with fail
  refine (bytes7 wh fr exp j _ (by omega) (by omega)).mono ?_
  rintro e w' ⟨rfl, rfl⟩
  go_wp2_with fail
  go_ret
  exact ⟨rfl, Below.refl _ _⟩

set_option maxHeartbeats 1000000 in
theorem same_out (wh fr : ByteArray) (exp j : Int) (w : World) (h1 : wh.size ≤ 524288) (h2 : fr.size ≤ 524288) (h3 : 1 ≤ wh.size) (h : j < 1 ∨ (wh.size : Int) + fr.size < j) :
    Calls Try.prog 3 #[.string wh, .string fr, .int .i64 exp, .int .i64 j] w fun e w' => e = .returned (.bool true) ∧ Below w.heap.size w w' := by
  go_enter Try.func3, Try.ntmps3
  go_wp2_with fail
  refine (bytes7 wh fr exp j _ (by omega) (by omega)).mono ?_
  rintro e w' ⟨rfl, rfl⟩
  go_wp2_with fail
  refine (allDigits_any wh _ (by omega)).mono ?_
  rintro e w' ⟨rfl | rfl, rfl⟩
  rotate_left
  · go_wp2_with fail
    go_ret
    exact ⟨rfl, Below.refl _ _⟩
  go_wp2_with fail
  refine (allDigits_any fr _ (by omega)).mono ?_
  rintro e w' ⟨rfl | rfl, rfl⟩
  rotate_left
  · go_wp2_with fail
    go_ret
    exact ⟨rfl, Below.refl _ _⟩
  rcases h with h | h
  · go_wp2_with fail
    go_ret
    exact ⟨rfl, Below.refl _ _⟩
  · have h' : ¬ j < 1 := by omega
    go_wp2_with fail
    go_ret
    exact ⟨rfl, Below.refl _ _⟩

theorem same_any (wh fr : ByteArray) (exp j : Int) (w : World) (b1 : wh.size ≤ maxLen) (b2 : fr.size ≤ maxLen) :
    Calls Try.prog 3 #[.string wh, .string fr, .int .i64 exp, .int .i64 j] w fun e w' => e = .returned (.bool true) ∧ Below w.heap.size w w' := by
  by_cases hl : 524288 < wh.size ∨ 524288 < fr.size
  · exact same_long wh fr exp j w b1 b2 hl
  have h1 : wh.size ≤ 524288 := by omega
  have h2 : fr.size ≤ 524288 := by omega
  by_cases h3 : wh.size < 1
  · exact same_short wh fr exp j w h1 h2 h3
  by_cases ho : j < 1 ∨ (wh.size : Int) + fr.size < j
  · exact same_out wh fr exp j w h1 h2 (by omega) ho
  obtain ⟨k, rfl⟩ := Int.eq_ofNat_of_zero_le (show 0 ≤ j by omega)
  rcases zero_or_ends (digs wh fr) with hz | ⟨f, t, he⟩
  · exact same_zero wh fr exp k w h1 h2 (by omega) (by omega) (by omega) hz
  · exact same_at wh fr exp k f t w h1 h2 (by omega) (by omega) (by omega) he
end Go.Proofs.Qxb6608858a.Span
