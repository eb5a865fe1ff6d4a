/-
  The walks of the small functions beside span: ZZDecimalSpan (9), ZZNewDecimal (10), zzAllDigits (8), zzAllZeros (14), zzSpanIs (11), the two zzBytes (7, 12).
-/
import Derived.Test.Qxb6608858aSpan
import Derived.Deep.RegionWith
import Derived.WalkSmall
namespace Go.Proofs.Qxb6608858a.Span
open Go.RowKit

theorem zspan_zero (b : Nat) (wh fr : ByteArray) (w : World) (hw : w.cell? ⟨b, 0, none⟩ = some (.string wh)) (hf : w.cell? ⟨b, 1, none⟩ = some (.string fr))
    (hb : wh.size + fr.size ≤ 4194304) (hz : AllZero (digs wh fr)) :
    Calls Try.prog 9 #[.pointer (some ⟨b, 0, none⟩)] w fun e w' => e = .returned (.tuple #[.int .i64 0, .int .i64 0, .bool false]) ∧ ∃ n, w' = w.drewN n := by
  have HZ : Hid (AllZero (digs wh fr)) := hz
  clear hz
  go_enter Try.func9, Try.ntmps9
  go_wp2_with (go_at_call 19; refine (span_zero b wh fr _ hw hf hb HZ.out).mono ?_; rintro e w' ⟨rfl, n', rfl⟩)
  go_ret3
  exact ⟨rfl, _, rfl⟩

theorem zspan_at (b : Nat) (wh fr : ByteArray) (exp : Int) (f t : Nat) (w : World) (hw : w.cell? ⟨b, 0, none⟩ = some (.string wh)) (hf : w.cell? ⟨b, 1, none⟩ = some (.string fr))
    (hx : w.cell? ⟨b, 2, none⟩ = some (.int .i64 exp)) (hb : wh.size + fr.size ≤ 4194304) (he : Ends (digs wh fr) f t) :
    Calls Try.prog 9 #[.pointer (some ⟨b, 0, none⟩)] w fun e w' =>
      e = .returned (.tuple #[.int .i64 (wrap64 (onesOf wh.size exp - f)), .int .i64 (wrap64 (onesOf wh.size exp - t)), .bool true]) ∧ ∃ n, w' = w.drewN n := by
  have HE : Hid (Ends (digs wh fr) f t) := he
  clear he
  go_enter Try.func9, Try.ntmps9
  go_wp2_with (go_at_call 19; refine (span_at b wh fr exp f t _ hw hf hx hb HE.out).mono ?_; rintro e w' ⟨rfl, n', rfl⟩)
  go_ret3
  exact ⟨rfl, _, rfl⟩

theorem newd_any (wh fr : ByteArray) (exp : Int) (w : World) :
    Calls Try.prog 10 #[.string wh, .string fr, .int .i64 exp] w fun e w' => e = .returned (.pointer (some ⟨w.heap.size, 0, none⟩)) ∧ Below w.heap.size w w' ∧
      w'.cell? ⟨w.heap.size, 0, none⟩ = some (.string wh) ∧ w'.cell? ⟨w.heap.size, 1, none⟩ = some (.string fr) ∧ w'.cell? ⟨w.heap.size, 2, none⟩ = some (.int .i64 exp) := by
  go_enter Try.func10, Try.ntmps10
  go_wp2
  go_ret
  exact ⟨rfl, (Below.refl _ w).alloc (Nat.le_refl _) _, by simp, by simp, by simp⟩

theorem allDigits_any (s : ByteArray) (w : World) (hs : s.size ≤ 4194304) :
    Calls Try.prog 8 #[.string s] w fun e w' => (e = .returned (.bool true) ∨ e = .returned (.bool false)) ∧ w = w' := by
  go_enter Try.func8, Try.ntmps8
  go_wp2
  go_loop [3] (fun i => ∃ k : Nat, k ≤ s.size ∧ i = .int .i64 k) (fun i => s.size - (intOf i).toNat)
  case atStart => exact ⟨0, Nat.zero_le _, rfl⟩
  case round =>
    obtain ⟨k, hk, rfl⟩ := hrel
    by_cases hlt : k < s.size
    · go_wp2
      all_goals first
        | (go_ret; exact ⟨Or.inr rfl, rfl⟩)
        | (go_round
           case rel => exact ⟨k + 1, by omega, by go_num⟩
           case measure => simp [intOf]; omega)
    · go_wp2
      go_ret
      exact ⟨Or.inl rfl, rfl⟩

theorem byt_one (s : ByteArray) (k : Nat) (h : k < s.size) : (s[k].toNat : Int) = byt s.data.toList k := by
  unfold byt
  have hl : k < s.data.toList.length := by simpa using h
  rw [List.getD_eq_getElem?_getD, List.getElem?_eq_getElem hl]
  simp; rfl

theorem allZeros_yes (s : ByteArray) (w : World) (hs : s.size ≤ 4194304) (hz : AllZero s.data.toList) :
    Calls Try.prog 14 #[.string s] w fun e w' => e = .returned (.bool true) ∧ w = w' := by
  have HZ : Hid (AllZero s.data.toList) := hz
  clear hz
  go_enter Try.func14, Try.ntmps14
  go_wp2
  go_loop [3] (fun i => ∃ k : Nat, k ≤ s.size ∧ i = .int .i64 k) (fun i => s.size - (intOf i).toNat)
  case atStart => exact ⟨0, Nat.zero_le _, rfl⟩
  case round =>
    obtain ⟨k, hk, rfl⟩ := hrel
    by_cases hlt : k < s.size
    · have h48 : ((s[k].toNat : Int) != 48) = false := by
        rw [byt_one s k hlt, HZ.out k (by simpa using hlt)]; rfl
      go_wp2
      go_round
      case rel => exact ⟨k + 1, by omega, by go_num⟩
      case measure => simp [intOf]; omega
    · go_wp2
      go_ret
      exact ⟨rfl, rfl⟩

theorem allZeros_no (s : ByteArray) (m : Nat) (w : World) (hs : s.size ≤ 4194304) (hm : m < s.size) (hz : byt s.data.toList m ≠ 48) :
    Calls Try.prog 14 #[.string s] w fun e w' => e = .returned (.bool false) ∧ w = w' := by
  have HZ : Hid (byt s.data.toList m ≠ 48) := hz
  clear hz
  go_enter Try.func14, Try.ntmps14
  go_wp2
  go_loop [3] (fun i => ∃ k : Nat, k ≤ m ∧ i = .int .i64 k) (fun i => s.size - (intOf i).toNat)
  case atStart => exact ⟨0, Nat.zero_le _, rfl⟩
  case round =>
    obtain ⟨k, hk, rfl⟩ := hrel
    have hlt : k < s.size := by omega
    by_cases h48 : byt s.data.toList k = 48
    · have hne : k ≠ m := by intro h; subst h; exact HZ.out h48
      have h48' : ((s[k].toNat : Int) != 48) = false := by rw [byt_one s k hlt, h48]; rfl
      clear h48
      go_wp2
      go_round
      case rel => exact ⟨k + 1, by omega, by go_num⟩
      case measure => simp [intOf]; omega
    · have h48' : ((s[k].toNat : Int) != 48) = true := by rw [byt_one s k hlt, bne_iff_ne]; exact h48
      clear h48
      go_wp2
      go_ret
      exact ⟨rfl, rfl⟩

/-! ### zzSpanIs (11) -/
set_option maxHeartbeats 1000000 in
theorem spanIs_zero (s : ByteArray) (ones : Int) (w : World) (hs : s.size ≤ 4194304) (hz : AllZero s.data.toList) :
    Calls Try.prog 11 #[.string s, .int .i64 ones, .int .i64 0, .int .i64 0, .bool false] w fun e w' => e = .returned (.bool true) ∧ w = w' := by
  have HZ : Hid (AllZero s.data.toList) := hz
  clear hz
  go_enter Try.func11, Try.ntmps11
  go_wp2_with (go_at_call 14; refine (allZeros_yes s _ hs HZ.out).mono ?_; rintro e w' ⟨rfl, rfl⟩)
  go_ret
  exact ⟨rfl, rfl⟩

set_option maxHeartbeats 2000000 in
theorem spanIs_at (s : ByteArray) (ones high low : Int) (f t : Nat) (w : World) (hs : s.size ≤ 4194304) (he : Ends s.data.toList f t)
    (hi : wrap64 (ones - high) = f) (hl : wrap64 (ones - low) = t) :
    Calls Try.prog 11 #[.string s, .int .i64 ones, .int .i64 high, .int .i64 low, .bool true] w fun e w' => e = .returned (.bool true) ∧ w = w' := by
  have HE : Hid (Ends s.data.toList f t) := he
  have ht : t < s.size := by have := he.2.1; simpa using this
  have hft : f ≤ t := he.1
  clear he
  have hfs : f < s.size := by omega
  have bf : ((s[f].toNat : Int) == 48) = false := by rw [byt_one s f hfs]; exact beq_eq_false_iff_ne.2 HE.out.2.2.1
  have bt : ((s[t].toNat : Int) == 48) = false := by rw [byt_one s t ht]; exact beq_eq_false_iff_ne.2 HE.out.2.2.2.1
  have d0 : decide ((f : Int) < 0) = false := by simp
  have d1 : decide (t < f) = false := by simp; omega
  have d2 : decide (s.size ≤ t) = false := by simp; omega
  go_enter Try.func11, Try.ntmps11
  go_wp2
  go_loop [14] (fun i => ∃ k : Nat, k ≤ f ∧ i = .int .i64 k) (fun i => f - (intOf i).toNat)
  case atStart => exact ⟨0, Nat.zero_le _, rfl⟩
  case round =>
    obtain ⟨k, hk, rfl⟩ := hrel
    by_cases hlt : k < f
    · have hks : k < s.size := by omega
      have h48 : ((s[k].toNat : Int) != 48) = false := by
        rw [byt_one s k hks, HE.out.2.2.2.2.1 k hlt]; rfl
      go_wp2
      go_round
      case rel => exact ⟨k + 1, by omega, by go_num⟩
      case measure => simp [intOf]; omega
    · go_wp2
      go_loop [15] (fun i => ∃ j : Nat, t < j ∧ j ≤ s.size ∧ i = .int .i64 j) (fun i => s.size - (intOf i).toNat)
      case atStart => exact ⟨t + 1, by omega, by omega, by go_num⟩
      case round =>
        obtain ⟨j, hj1, hj2, rfl⟩ := hrel
        by_cases hjs : j < s.size
        · have h48 : ((s[j].toNat : Int) != 48) = false := by
            rw [byt_one s j hjs, HE.out.2.2.2.2.2 j hj1 (by simpa using hjs)]; rfl
          go_wp2
          go_round
          case rel => exact ⟨j + 1, by omega, by omega, by go_num⟩
          case measure => simp [intOf]; omega
        · go_wp2
          go_ret
          exact ⟨rfl, rfl⟩

theorem bytes7 (wh fr : ByteArray) (exp j : Int) (w : World) (h1 : (wh.size : Int) ≤ 524288) (h2 : (fr.size : Int) ≤ 524288) :
    Calls Try.prog 7 #[.string wh, .string fr, .int .i64 exp, .int .i64 j] w fun e w' => e = .returned (.bool true) ∧ w = w' := by
  go_enter Try.func7, Try.ntmps7
  go_wp2
  go_ret
  exact ⟨rfl, rfl⟩
theorem bytes7_any (wh fr : ByteArray) (exp j : Int) (w : World) (h1 : (wh.size : Int) ≤ 140737488355328) (h2 : (fr.size : Int) ≤ 140737488355328) :
    Calls Try.prog 7 #[.string wh, .string fr, .int .i64 exp, .int .i64 j] w fun e w' => (e = .returned (.bool true) ∨ e = .returned (.bool false)) ∧ w = w' := by
  go_enter Try.func7, Try.ntmps7
  go_wp2
  all_goals go_ret
  all_goals first | exact ⟨Or.inl rfl, rfl⟩ | exact ⟨Or.inr rfl, rfl⟩
theorem bytes12 (wh fr : ByteArray) (exp l t k : Int) (w : World) (h1 : (wh.size : Int) ≤ 524288) (h2 : (fr.size : Int) ≤ 524288) :
    Calls Try.prog 12 #[.string wh, .string fr, .int .i64 exp, .int .i64 l, .int .i64 t, .int .i64 k] w fun e w' => e = .returned (.bool true) ∧ w = w' := by
  go_enter Try.func12, Try.ntmps12
  go_wp2
  go_ret
  exact ⟨rfl, rfl⟩
theorem bytes12_any (wh fr : ByteArray) (exp l t k : Int) (w : World) (h1 : (wh.size : Int) ≤ 140737488355328) (h2 : (fr.size : Int) ≤ 140737488355328) :
    Calls Try.prog 12 #[.string wh, .string fr, .int .i64 exp, .int .i64 l, .int .i64 t, .int .i64 k] w fun e w' => (e = .returned (.bool true) ∨ e = .returned (.bool false)) ∧ w = w' := by
  go_enter Try.func12, Try.ntmps12
  go_wp2
  all_goals go_ret
  all_goals first | exact ⟨Or.inl rfl, rfl⟩ | exact ⟨Or.inr rfl, rfl⟩
end Go.Proofs.Qxb6608858a.Span
