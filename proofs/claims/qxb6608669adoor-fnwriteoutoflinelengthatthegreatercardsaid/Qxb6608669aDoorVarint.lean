/-
  zzHasPrefix (26), zzIsVarintOf (12).
-/
import Derived.Test.Qxb6608669aDoorClone
namespace Go.Proofs.Qxb6608669aDoor
open Go.RowKit Go.Deep

set_option maxHeartbeats 2000000 in
theorem prefix_nil (ao : Option Addr) (l cap : Nat) (w : World) : Calls Tryd.prog 26 #[.slice ao l cap, .slice none 0 0] w fun e w' => e = .returned (.bool true) ∧ ∃ n, w' = w.drewN n := by
  have d : decide ((l : Int) < 0) = false := decide_eq_false (by omega)
  go_enter Tryd.func26, Tryd.ntmps26
  go_wp2
  go_loop [5] (fun i => i = .int .i64 0) (fun _ => 0)
  case atStart => rfl
  case round =>
    subst hrel
    go_wp2
    go_ret
    exact ⟨rfl, 0, rfl⟩

set_option maxHeartbeats 2000000 in
theorem prefix_some (g l cap q m c : Nat) (f : Nat → Int) (w : World) (hg : ∀ k, k < m → w.cell? ⟨g, k, none⟩ = some (.int .u8 (f k))) (hq : ∀ k, k < m → w.cell? ⟨q, k, none⟩ = some (.int .u8 (f k))) (hml : m ≤ l) (hlim : m ≤ 1048576) :
    Calls Tryd.prog 26 #[.slice (some ⟨g, 0, none⟩) l cap, .slice (some ⟨q, 0, none⟩) m c] w fun e w' => e = .returned (.bool true) ∧ ∃ n, w' = w.drewN n := by
  have d : decide ((l : Int) < (m : Int)) = false := decide_eq_false (by omega)
  have d' : ¬ l < m := by omega
  go_enter Tryd.func26, Tryd.ntmps26
  go_wp2
  go_loopw [5] (fun i wr => ∃ k n : Nat, k ≤ m ∧ i = .int .i64 k ∧ wr = w.drewN n) (fun i _ => m - (intOf i).toNat)
  case atStart => exact ⟨0, 0, Nat.zero_le _, rfl, rfl⟩
  case round =>
    obtain ⟨k, n, hk, rfl, rfl⟩ := hrel
    by_cases hlt : k < m
    · have c1 := hg k hlt
      have c2 := hq k hlt
      have hkl : k < l := by omega
      go_wp2
      go_quiet (fail)
      go_wp2
      go_roundw
      case rel => exact ⟨k + 1, _, by omega, by go_num, rfl⟩
      case measure => simp [intOf]; omega
    · go_wp2
      go_ret
      exact ⟨rfl, n, rfl⟩

set_option maxHeartbeats 2000000 in
theorem varint_walk (g off m c : Nat) (x : Int) (b A : Nat → Int) (w : World) (hb : ∀ k, k < m → w.cell? ⟨g, off + k, none⟩ = some (.int .u8 (b k))) (h1 : 1 ≤ m) (h10 : m ≤ 10)
    (hmore : ∀ k, k + 1 < m → decide (b k < 128) = false) (hlast : decide (128 ≤ b (m - 1)) = false) (hz : 1 < m → b (m - 1) ≠ 0) (h9 : m = 10 → b (m - 1) ≤ 1) (hA0 : A 0 = 0) (hAm : A m = x)
    (hA : ∀ k, k < m → bits .or .u64 (A k) (IntKind.u64.wrap (IntKind.u64.wrap (bits .and .u8 (b k) 127) * 2 ^ (7 * k))) = A (k + 1)) :
    Calls Tryd.prog 12 #[.slice (some ⟨g, off, none⟩) m c, .int .u64 x] w fun e w' => e = .returned (.bool true) ∧ w = w' := by
  have d1 : decide ((m : Int) < 1) = false := decide_eq_false (by omega)
  have d2 : decide ((10 : Int) < (m : Int)) = false := decide_eq_false (by omega)
  have hw : IntKind.i64.wrap ((m : Int) - 1) = (m : Int) - 1 := by rw [IntKind.wrap_i64]; omega
  go_enter Tryd.func12, Tryd.ntmps12
  go_wp2
  go_loop [6, 7] (fun v i => ∃ k : Nat, k ≤ m ∧ v = .int .u64 (A k) ∧ i = .int .i64 k) (fun _ i => m - (intOf i).toNat)
  case atStart => exact ⟨0, Nat.zero_le _, by rw [hA0], rfl⟩
  case round =>
    obtain ⟨k, hk, rfl, rfl⟩ := hrel
    by_cases hlt : k < m
    · have c1 := hb k hlt
      by_cases hl : k + 1 < m
      · have hm := hmore k hl
        have d3 : decide ((k : Int) < (m : Int) - 1) = true := decide_eq_true (by omega)
        go_wp2
        go_round
        case rel => exact ⟨k + 1, by omega, rfl, by go_num⟩
        case measure => simp [intOf]; omega
      · have HA := Lib.hid (hA k hlt)
        have hkm : k = m - 1 := by omega
        rw [← hkm] at hlast hz h9
        have d3 : decide ((k : Int) < (m : Int) - 1) = false := decide_eq_false (by omega)
        have hbk : 1 ≤ k → ¬ b k = 0 := fun h => hz (by omega)
        have hb9 : k = 9 → ¬ 1 < b k := fun h => by have := h9 (by omega); omega
        have HM : Hid (k = m - 1) := hkm
        clear hkm hz h9 hb hmore hA hA0 hAm
        generalize b k = B at *
        by_cases hk0 : k = 0
        · have e0 : decide (0 < k) = false := decide_eq_false (by omega)
          have e0' : decide ((0 : Int) < (k : Int)) = false := decide_eq_false (by omega)
          have e9 : ((k : Int) == 9) = false := beq_eq_false_iff_ne.2 (by omega)
          clear hk0 hbk hb9
          cases hbz : (B == 0) <;> go_wp2
          all_goals (
            go_round
            case rel => exact ⟨k + 1, by omega, by rw [HA.out], by go_num⟩
            case measure => simp [intOf]; omega)
        · have e0 : decide (0 < k) = true := decide_eq_true (by omega)
          have e0' : decide ((0 : Int) < (k : Int)) = true := decide_eq_true (by omega)
          have hbz : (B == 0) = false := beq_eq_false_iff_ne.2 (hbk (by omega))
          by_cases hk9 : k = 9
          · have e9 : ((k : Int) == 9) = true := beq_iff_eq.2 (by omega)
            have e1 : decide (1 < B) = false := decide_eq_false (hb9 hk9)
            clear hk0 hbk hb9 hk9
            go_wp2
            all_goals (
              go_round
              case rel => exact ⟨k + 1, by omega, by rw [HA.out], by go_num⟩
              case measure => simp [intOf]; omega)
          · have e9 : ((k : Int) == 9) = false := beq_eq_false_iff_ne.2 (by omega)
            clear hk0 hbk hb9 hk9
            go_wp2
            all_goals (
              go_round
              case rel => exact ⟨k + 1, by omega, by rw [HA.out], by go_num⟩
              case measure => simp [intOf]; omega)
    · have hkm : k = m := by omega
      subst hkm
      clear hA hb hmore
      go_wp2
      go_ret
      exact ⟨rfl, rfl⟩

/-- Byte k of a list, 0 beyond. -/
def byteN (L : List UInt8) (k : Nat) : Nat := (L.getD k 0).toNat
theorem byteN_cons (a : UInt8) (L : List UInt8) (k : Nat) : byteN (a :: L) (k + 1) = byteN L k := rfl

theorem vbF_facts : ∀ (f x : Nat), x < 128 ^ (f + 1) →
    1 ≤ (vbF (f + 1) x).length ∧ (∀ k, k + 1 < (vbF (f + 1) x).length → byteN (vbF (f + 1) x) k = x / 128 ^ k % 128 + 128) ∧ byteN (vbF (f + 1) x) ((vbF (f + 1) x).length - 1) = x / 128 ^ ((vbF (f + 1) x).length - 1) ∧
      x / 128 ^ ((vbF (f + 1) x).length - 1) < 128 ∧ (1 < (vbF (f + 1) x).length → 1 ≤ x / 128 ^ ((vbF (f + 1) x).length - 1)) := by
  intro f
  induction f with
  | zero =>
    intro x h
    have hx : x < 128 := by simpa using h
    rw [vbF_small 0 x hx]
    simp only [List.length_cons, List.length_nil, byteN]
    refine ⟨by omega, fun k hk => by omega, ?_, ?_, fun h => by omega⟩
    · show (UInt8.ofNat x).toNat = x / 128 ^ 0
      rw [toNat_ofNat x (by omega)]; simp
    · simpa using hx
  | succ f ih =>
    intro x h
    by_cases hx : x < 128
    · rw [vbF_small (f + 1) x hx]
      simp only [List.length_cons, List.length_nil, byteN]
      refine ⟨by omega, fun k hk => by omega, ?_, ?_, fun h => by omega⟩
      · show (UInt8.ofNat x).toNat = x / 128 ^ 0
        rw [toNat_ofNat x (by omega)]; simp
      · simpa using hx
    · rw [vbF_big (f + 1) x hx]
      obtain ⟨i1, i2, i3, i4, i5⟩ := ih (x / 128) (by rw [Nat.pow_succ] at h; exact Nat.div_lt_of_lt_mul (by rw [Nat.mul_comm]; exact h))
      generalize vbF (f + 1) (x / 128) = L at *
      have hd : ∀ k, x / 128 / 128 ^ k = x / 128 ^ (k + 1) := fun k => by rw [Nat.div_div_eq_div_mul, Nat.pow_succ, Nat.mul_comm]
      have hl : (UInt8.ofNat (x % 128 + 128) :: L).length - 1 = (L.length - 1) + 1 := by rw [List.length_cons]; omega
      rw [hl, byteN_cons, ← hd]
      refine ⟨by rw [List.length_cons]; omega, ?_, i3, i4, ?_⟩
      · intro k hk
        rw [List.length_cons] at hk
        cases k with
        | zero => show (UInt8.ofNat (x % 128 + 128)).toNat = _; rw [toNat_ofNat _ (by omega)]; simp
        | succ k => rw [byteN_cons, ← hd]; exact i2 k (by omega)
      · intro _
        by_cases h2 : 1 < L.length
        · exact i5 h2
        · have : L.length - 1 = 0 := by omega
          rw [this, Nat.pow_zero, Nat.div_one]; omega

theorem and127 (d : Nat) (h : d < 256) : bits .and .u8 (d : Int) 127 = ((d % 128 : Nat) : Int) := by
  have : ∀ y : Fin 256, bits .and .u8 ((y.val : Nat) : Int) 127 = ((y.val % 128 : Nat) : Int) := by decide +kernel
  exact this ⟨d, h⟩

theorem step_or (x k d : Nat) (hx : x < 18446744073709551616) (hd : d < 256) (hdx : d % 128 = x / 128 ^ k % 128) :
    bits .or .u64 ((x % 128 ^ k : Nat) : Int) (IntKind.u64.wrap (IntKind.u64.wrap (bits .and .u8 (d : Int) 127) * 2 ^ (7 * k))) = ((x % 128 ^ (k + 1) : Nat) : Int) := by
  have e := Nat.mod_pow_succ (x := x) (b := 128) (k := k)
  have hle : x % 128 ^ (k + 1) ≤ x := Nat.mod_le _ _
  have h2 : (2 : Nat) ^ (7 * k) = 128 ^ k := by rw [Nat.pow_mul]
  rw [and127 d hd, hdx]
  have hlt : x % 128 ^ k < 128 ^ k := Nat.mod_lt _ (Nat.pow_pos (by decide))
  generalize x / 128 ^ k % 128 = g at *
  generalize x % 128 ^ (k + 1) = r at *
  generalize x % 128 ^ k = lo at *
  have hb : 128 ^ k * g ≤ x := by omega
  have hg : g < 18446744073709551616 := by omega
  have hw1 : IntKind.u64.wrap ((g : Nat) : Int) = (g : Int) := wrapNat g hg
  have hp : ((g : Nat) : Int) * 2 ^ (7 * k) = ((128 ^ k * g : Nat) : Int) := by
    rw [← h2, Int.mul_comm]; simp
  rw [hw1, hp, wrapNat _ (by omega), u64_or_nat lo (128 ^ k * g) (by omega) (by omega), e]
  congr 1
  rw [Nat.or_comm, ← h2, ← Nat.two_pow_add_eq_or_of_lt (by rw [h2]; exact hlt), Nat.add_comm]

/-- zzIsVarintOf takes the varint of x. -/
theorem varint_any (g off c x : Nat) (w : World) (hx : x < 18446744073709551616) (hb : ∀ k, k < (vb x).length → w.cell? ⟨g, off + k, none⟩ = some (.int .u8 (byteN (vb x) k))) :
    Calls Tryd.prog 12 #[.slice (some ⟨g, off, none⟩) (vb x).length c, .int .u64 x] w fun e w' => e = .returned (.bool true) ∧ w = w' := by
  have hlen := vbF_len 10 x
  obtain ⟨i1, i2, i3, i4, i5⟩ := vbF_facts 9 x (by omega)
  change 1 ≤ (vb x).length at i1
  change ∀ k, k + 1 < (vb x).length → byteN (vb x) k = x / 128 ^ k % 128 + 128 at i2
  change byteN (vb x) ((vb x).length - 1) = x / 128 ^ ((vb x).length - 1) at i3
  change x / 128 ^ ((vb x).length - 1) < 128 at i4
  change 1 < (vb x).length → 1 ≤ x / 128 ^ ((vb x).length - 1) at i5
  change (vb x).length ≤ 10 at hlen
  have hxm : x < 128 ^ (vb x).length := by
    have h := (Nat.div_lt_iff_lt_mul (Nat.pow_pos (by decide))).1 i4
    rw [Nat.mul_comm, ← Nat.pow_succ, show ((vb x).length - 1).succ = (vb x).length from by omega] at h
    exact h
  generalize hL : vb x = L at *
  have h9 : L.length = 10 → x / 128 ^ (L.length - 1) ≤ 1 := fun h => by rw [h]; omega
  refine varint_walk g off L.length c x (fun k => (byteN L k : Int)) (fun k => ((x % 128 ^ k : Nat) : Int)) w hb i1 hlen ?_ ?_ ?_ ?_ ?_ ?_ ?_
  · intro k hk
    have := i2 k hk
    exact decide_eq_false (by omega)
  · exact decide_eq_false (by omega)
  · intro h
    have := i5 h
    omega
  · intro h
    have := h9 h
    omega
  · simp [Nat.mod_one]
  · simp only [Nat.mod_eq_of_lt hxm]
  · intro k hk
    refine step_or x k (byteN L k) hx ?_ ?_
    · exact (L.getD k 0).toNat_lt
    · by_cases h : k + 1 < L.length
      · rw [i2 k h]; omega
      · have : k = L.length - 1 := by omega
        subst this
        rw [i3]
end Go.Proofs.Qxb6608669aDoor
