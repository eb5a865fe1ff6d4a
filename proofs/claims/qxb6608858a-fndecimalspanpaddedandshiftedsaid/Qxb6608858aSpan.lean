/-
  The plain words of the laws over span, and the walks of digitAt (21), ones (22), span (19).
-/
import Derived.Test.Qxb6608858aRows
import Derived.WalkKit
import Derived.WalkSpells
import Derived.Deep.QuietTactic
import Derived.BigQuiet
namespace Go.Proofs.Qxb6608858a.Span
open Go.RowKit

/-- The digits of a decimal: those of the whole, then those of the fraction. -/
def digs (wh fr : ByteArray) : List UInt8 := wh.data.toList ++ fr.data.toList
/-- The byte at an index, as a number. -/
def byt (l : List UInt8) (i : Nat) : Int := ((l.getD i 0).toNat : Int)

theorem digs_length (wh fr : ByteArray) : (digs wh fr).length = wh.size + fr.size := by simp [digs]
theorem byt_bd (l : List UInt8) (i : Nat) : 0 ≤ byt l i ∧ byt l i ≤ 255 := by
  unfold byt; have := (l.getD i 0).toNat_lt; omega
theorem byt_whole (wh fr : ByteArray) (k : Nat) (h : k < wh.size) : (wh[k].toNat : Int) = byt (digs wh fr) k := by
  unfold byt digs
  have hl : k < wh.data.toList.length := by simpa using h
  rw [List.getD_eq_getElem?_getD, List.getElem?_append_left hl, List.getElem?_eq_getElem hl]
  simp; rfl
theorem byt_frac (wh fr : ByteArray) (j : Nat) (h : j < fr.size) : (fr[j].toNat : Int) = byt (digs wh fr) (wh.size + j) := by
  unfold byt digs
  have hw : wh.data.toList.length = wh.size := by simp
  have hl : j < fr.data.toList.length := by simpa using h
  rw [List.getD_eq_getElem?_getD, List.getElem?_append_right (by omega), show wh.size + j - wh.data.toList.length = j from by omega, List.getElem?_eq_getElem hl]
  simp; rfl

theorem ret_u8 {a b : Int} (h : a = b) : Ending.returned (.int .u8 a) = .returned (.int .u8 b) := by rw [h]

theorem digit_whole (b : Nat) (wh fr : ByteArray) (k : Nat) (w : World) (hw : w.cell? ⟨b, 0, none⟩ = some (.string wh)) (hk : k < wh.size) :
    Calls Try.prog 21 #[.pointer (some ⟨b, 0, none⟩), .int .i64 k] w fun e w' => e = .returned (.int .u8 ((byt (digs wh fr) k - 48) % 256)) ∧ ∃ n, w' = w.drewN n := by
  have HB : Hid ((wh[k].toNat : Int) = byt (digs wh fr) k) := byt_whole wh fr k hk
  go_enter Try.func21, Try.ntmps21
  go_wp2
  go_ret
  exact ⟨ret_u8 (by rw [← HB.out]), 0, rfl⟩

theorem digit_frac (b : Nat) (wh fr : ByteArray) (k j : Nat) (w : World) (hw : w.cell? ⟨b, 0, none⟩ = some (.string wh)) (hf : w.cell? ⟨b, 1, none⟩ = some (.string fr))
    (hk : ¬ (k : Int) < wh.size) (hj : j < fr.size) (he : (k : Int) - wh.size = j) (he2 : IntKind.i64.wrap (j : Int) = j) (HK : Hid (k = wh.size + j)) :
    Calls Try.prog 21 #[.pointer (some ⟨b, 0, none⟩), .int .i64 k] w fun e w' => e = .returned (.int .u8 ((byt (digs wh fr) k - 48) % 256)) ∧ ∃ n, w' = w.drewN n := by
  have HB : Hid ((fr[j].toNat : Int) = byt (digs wh fr) (wh.size + j)) := byt_frac wh fr j hj
  go_enter Try.func21, Try.ntmps21
  go_wp2
  go_quiet (fail)
  go_wp2
  go_ret
  exact ⟨ret_u8 (by rw [HK.out, ← HB.out]), _, rfl⟩

theorem digit_any (b : Nat) (wh fr : ByteArray) (k : Nat) (w : World) (hw : w.cell? ⟨b, 0, none⟩ = some (.string wh)) (hf : w.cell? ⟨b, 1, none⟩ = some (.string fr))
    (hk : k < wh.size + fr.size) (hb : wh.size + fr.size ≤ 4194304) :
    Calls Try.prog 21 #[.pointer (some ⟨b, 0, none⟩), .int .i64 k] w fun e w' => e = .returned (.int .u8 ((byt (digs wh fr) k - 48) % 256)) ∧ ∃ n, w' = w.drewN n := by
  by_cases h : k < wh.size
  · exact digit_whole b wh fr k w hw h
  · refine digit_frac b wh fr k (k - wh.size) w hw hf (by omega) (by omega) (by omega) ?_ (by show k = _; omega)
    rw [IntKind.wrap_i64]; omega

theorem digit_zero (b : Nat) (wh fr : ByteArray) (k : Nat) (w : World) (hw : w.cell? ⟨b, 0, none⟩ = some (.string wh)) (hf : w.cell? ⟨b, 1, none⟩ = some (.string fr))
    (hk : k < wh.size + fr.size) (hb : wh.size + fr.size ≤ 4194304) (hz : byt (digs wh fr) k = 48) :
    Calls Try.prog 21 #[.pointer (some ⟨b, 0, none⟩), .int .i64 k] w fun e w' => e = .returned (.int .u8 0) ∧ ∃ n, w' = w.drewN n := by
  have h := digit_any b wh fr k w hw hf hk hb
  rw [hz] at h
  exact h

theorem digit_non (b : Nat) (wh fr : ByteArray) (k : Nat) (w : World) (hw : w.cell? ⟨b, 0, none⟩ = some (.string wh)) (hf : w.cell? ⟨b, 1, none⟩ = some (.string fr))
    (hk : k < wh.size + fr.size) (hb : wh.size + fr.size ≤ 4194304) (hz : byt (digs wh fr) k ≠ 48) :
    Calls Try.prog 21 #[.pointer (some ⟨b, 0, none⟩), .int .i64 k] w fun e w' => (∃ v : Int, (v == 0) = false ∧ e = .returned (.int .u8 v)) ∧ ∃ n, w' = w.drewN n := by
  refine (digit_any b wh fr k w hw hf hk hb).mono ?_
  rintro e w' ⟨rfl, hn⟩
  have := byt_bd (digs wh fr) k
  exact ⟨⟨_, beq_eq_false_iff_ne.2 (by omega), rfl⟩, hn⟩

/-- The place of the last whole digit. -/
def onesOf (n : Nat) (exp : Int) : Int := wrap64 ((n : Int) - 1 + exp)

theorem ones_any (b : Nat) (wh : ByteArray) (exp : Int) (w : World) (hw : w.cell? ⟨b, 0, none⟩ = some (.string wh)) (hx : w.cell? ⟨b, 2, none⟩ = some (.int .i64 exp)) (hb : wh.size ≤ 4194304) :
    Calls Try.prog 22 #[.pointer (some ⟨b, 0, none⟩)] w fun e w' => e = .returned (.int .i64 (onesOf wh.size exp)) ∧ ∃ n, w' = w.drewN n := by
  have h1 : IntKind.i64.wrap ((wh.size : Int) - 1) = (wh.size : Int) - 1 := by rw [IntKind.wrap_i64]; omega
  go_enter Try.func22, Try.ntmps22
  go_wp2
  go_quiet (fail)
  go_wp2
  go_ret
  exact ⟨rfl, _, rfl⟩

/-- All digits are 0. -/
def AllZero (l : List UInt8) : Prop := ∀ m, m < l.length → byt l m = 48
/-- The first and the last digit that is not 0. -/
def Ends (l : List UInt8) (f t : Nat) : Prop :=
  f ≤ t ∧ t < l.length ∧ byt l f ≠ 48 ∧ byt l t ≠ 48 ∧ (∀ m, m < f → byt l m = 48) ∧ (∀ m, t < m → m < l.length → byt l m = 48)

set_option maxHeartbeats 1000000 in
theorem span_zero (b : Nat) (wh fr : ByteArray) (w : World) (hw : w.cell? ⟨b, 0, none⟩ = some (.string wh)) (hf : w.cell? ⟨b, 1, none⟩ = some (.string fr))
    (hb : wh.size + fr.size ≤ 4194304) (hz : AllZero (digs wh fr)) :
    Calls Try.prog 19 #[.pointer (some ⟨b, 0, none⟩)] w fun e w' => e = .returned (.tuple #[.int .i64 0, .int .i64 0, .bool false]) ∧ ∃ n, w' = w.drewN n := by
  have HZ : Hid (AllZero (digs wh fr)) := hz
  clear hz
  have h1 : IntKind.i64.wrap ((wh.size : Int) + fr.size) = (wh.size : Int) + fr.size := by rw [IntKind.wrap_i64]; omega
  go_enter Try.func19, Try.ntmps19
  go_wp2
  go_quiet (fail)
  go_wp2
  go_loopw [6] (fun i wr => ∃ k n : Nat, k ≤ wh.size + fr.size ∧ i = .int .i64 k ∧ wr = w.drewN n) (fun i _ => wh.size + fr.size - (intOf i).toNat)
  case atStart => exact ⟨0, _, by omega, rfl, rfl⟩
  case round =>
    obtain ⟨k, n, hk, rfl, rfl⟩ := hrel
    by_cases hlt : k < wh.size + fr.size
    · have hlt2 : (k : Int) < wh.size + fr.size := by omega
      go_wp2_with (go_at_call 21; refine (digit_zero b wh fr k _ (by exact hw) (by exact hf) hlt hb (HZ.out k (by rw [digs_length]; exact hlt))).mono ?_; rintro e w' ⟨rfl, n', rfl⟩)
      go_roundw
      case rel => exact ⟨k + 1, _, by omega, by go_num, rfl⟩
      case measure => simp [intOf]; omega
    · have hge : ¬ (k : Int) < wh.size + fr.size := by omega
      have heq : ((k : Int) == wh.size + fr.size) = true := beq_iff_eq.2 (by omega)
      go_wp2
      go_ret3
      exact ⟨rfl, _, rfl⟩


set_option maxHeartbeats 2000000 in
theorem span_at (b : Nat) (wh fr : ByteArray) (exp : Int) (f t : Nat) (w : World) (hw : w.cell? ⟨b, 0, none⟩ = some (.string wh)) (hf : w.cell? ⟨b, 1, none⟩ = some (.string fr))
    (hx : w.cell? ⟨b, 2, none⟩ = some (.int .i64 exp)) (hb : wh.size + fr.size ≤ 4194304) (he : Ends (digs wh fr) f t) :
    Calls Try.prog 19 #[.pointer (some ⟨b, 0, none⟩)] w fun e w' =>
      e = .returned (.tuple #[.int .i64 (wrap64 (onesOf wh.size exp - f)), .int .i64 (wrap64 (onesOf wh.size exp - t)), .bool true]) ∧ ∃ n, w' = w.drewN n := by
  have HE : Hid (Ends (digs wh fr) f t) := he
  have ht : t < wh.size + fr.size := by have := he.2.1; rw [digs_length] at this; exact this
  have hft : f ≤ t := he.1
  clear he
  have h1 : IntKind.i64.wrap ((wh.size : Int) + fr.size) = (wh.size : Int) + fr.size := by rw [IntKind.wrap_i64]; omega
  go_enter Try.func19, Try.ntmps19
  go_wp2
  go_quiet (fail)
  go_wp2
  go_loopw [6] (fun i wr => ∃ k n : Nat, k ≤ f ∧ i = .int .i64 k ∧ wr = w.drewN n) (fun i _ => f - (intOf i).toNat)
  case atStart => exact ⟨0, _, by omega, rfl, rfl⟩
  case round =>
    obtain ⟨k, n, hk, rfl, rfl⟩ := hrel
    have hlt2 : (k : Int) < wh.size + fr.size := by omega
    by_cases hlt : k < f
    · go_wp2_with (go_at_call 21; refine (digit_zero b wh fr k _ (by exact hw) (by exact hf) (by omega) hb (HE.out.2.2.2.2.1 k hlt)).mono ?_; rintro e w' ⟨rfl, n', rfl⟩)
      go_roundw
      case rel => exact ⟨k + 1, _, by omega, by go_num, rfl⟩
      case measure => simp [intOf]; omega
    · have hkf : k = f := by omega
      subst hkf
      have hne : ((k : Int) == wh.size + fr.size) = false := beq_eq_false_iff_ne.2 (by omega)
      go_wp2_with (go_at_call 21; refine (digit_non b wh fr k _ (by exact hw) (by exact hf) (by omega) hb HE.out.2.2.1).mono ?_; rintro e w' ⟨⟨v, hv, rfl⟩, n', rfl⟩)
      go_loopw [7] (fun i wr => ∃ j n2 : Nat, t ≤ j ∧ j < wh.size + fr.size ∧ i = .int .i64 j ∧ wr = w.drewN n2) (fun i _ => (intOf i).toNat - t)
      case atStart => exact ⟨wh.size + fr.size - 1, _, by omega, by omega, by go_num, rfl⟩
      case round =>
        obtain ⟨j, n2, hj1, hj2, rfl, rfl⟩ := hrel
        by_cases hgt : t < j
        · go_wp2_with (go_at_call 21; refine (digit_zero b wh fr j _ (by exact hw) (by exact hf) (by omega) hb (HE.out.2.2.2.2.2 j hgt (by rw [digs_length]; exact hj2))).mono ?_; rintro e w' ⟨rfl, n', rfl⟩)
          go_roundw
          case rel => exact ⟨j - 1, _, by omega, by omega, by go_num, rfl⟩
          case measure => simp [intOf]; omega
        · have hjt : j = t := by omega
          subst hjt
          go_wp2_with (first | (go_at_call 21; refine (digit_non b wh fr j _ (by exact hw) (by exact hf) (by omega) hb HE.out.2.2.2.1).mono ?_; rintro e w' ⟨⟨v, hv, rfl⟩, n', rfl⟩) | (go_at_call 22; refine (ones_any b wh exp _ (by exact hw) (by exact hx) (by omega)).mono ?_; rintro e w' ⟨rfl, n', rfl⟩))
          go_ret3
          exact ⟨rfl, _, rfl⟩

end Go.Proofs.Qxb6608858a.Span
