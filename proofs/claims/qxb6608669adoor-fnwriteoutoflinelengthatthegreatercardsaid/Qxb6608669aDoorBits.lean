/-
  The plain laws of the bit tricks: pairWord, spreadQuad, spreadGroups. No walk here.
-/
import Derived.Test.Qxb6608669aDoorPlain
import Derived.Laws.BitsAllLaws
namespace Go.Proofs.Qxb6608669aDoor

theorem and_split (k a b c d : Nat) (ha : a < 2 ^ k) (hc : c < 2 ^ k) : (2 ^ k * b + a) &&& (2 ^ k * d + c) = 2 ^ k * (b &&& d) + (a &&& c) := by
  have hac : a &&& c < 2 ^ k := Nat.lt_of_le_of_lt Nat.and_le_left ha
  apply Nat.eq_of_testBit_eq
  intro j
  rw [Nat.testBit_and, Nat.testBit_two_pow_mul_add _ ha, Nat.testBit_two_pow_mul_add _ hc, Nat.testBit_two_pow_mul_add _ hac]
  by_cases hj : j < k
  · simp [hj]
  · simp [hj]
theorem or_split (k a b c d : Nat) (ha : a < 2 ^ k) (hc : c < 2 ^ k) : (2 ^ k * b + a) ||| (2 ^ k * d + c) = 2 ^ k * (b ||| d) + (a ||| c) := by
  have hac : a ||| c < 2 ^ k := Nat.or_lt_two_pow ha hc
  apply Nat.eq_of_testBit_eq
  intro j
  rw [Nat.testBit_or, Nat.testBit_two_pow_mul_add _ ha, Nat.testBit_two_pow_mul_add _ hc, Nat.testBit_two_pow_mul_add _ hac]
  by_cases hj : j < k
  · simp [hj]
  · simp [hj]
theorem and_low (k a : Nat) (h : a < 2 ^ k) : a &&& (2 ^ k - 1) = a := by
  rw [Nat.and_two_pow_sub_one_eq_mod]; exact Nat.mod_eq_of_lt h

theorem and32 (x m : Nat) (M : Int) (hM : (m : Int) = M) (hx : x < 4294967296) (hm : m < 4294967296) : bits .and .u32 (x : Int) M = ((x &&& m : Nat) : Int) := by
  rw [← hM]; exact u32_and_nat x m hx hm
theorem and64 (x m : Nat) (M : Int) (hM : (m : Int) = M) (hx : x < 18446744073709551616) (hm : m < 18446744073709551616) : bits .and .u64 (x : Int) M = ((x &&& m : Nat) : Int) := by
  rw [← hM]; exact u64_and_nat x m hx hm
theorem or64 (x m : Nat) (M : Int) (hM : (m : Int) = M) (hx : x < 18446744073709551616) (hm : m < 18446744073709551616) : bits .or .u64 (x : Int) M = ((x ||| m : Nat) : Int) := by
  rw [← hM]; exact u64_or_nat x m hx hm
theorem or32 (x m : Nat) (M : Int) (hM : (m : Int) = M) (hx : x < 4294967296) (hm : m < 4294967296) : bits .or .u32 (x : Int) M = ((x ||| m : Nat) : Int) := by
  rw [← hM]; exact u32_or_nat x m hx hm
theorem and16 (x m : Nat) (M : Int) (hM : (m : Int) = M) (hx : x < 65536) (hm : m < 65536) : bits .and .u16 (x : Int) M = ((x &&& m : Nat) : Int) := by
  rw [← hM]; exact u16_and_nat x m hx hm
theorem or16 (x m : Nat) (M : Int) (hM : (m : Int) = M) (hx : x < 65536) (hm : m < 65536) : bits .or .u16 (x : Int) M = ((x ||| m : Nat) : Int) := by
  rw [← hM]; exact u16_or_nat x m hx hm

/-- The four groups of seven bits, one to a byte. -/
def SQ (x : Nat) : Nat := x % 128 + 256 * (x / 128 % 128) + 65536 * (x / 16384 % 128) + 16777216 * (x / 2097152 % 128)
/-- The first step: halves of 14 bits, 16 bits apart. -/
def SH (x : Nat) : Nat := x % 16384 + 65536 * (x / 16384)

theorem SQ_lt (x : Nat) : SQ x < 2147483648 := by unfold SQ; omega
theorem SH_lt (x : Nat) (h : x < 268435456) : SH x < 1073741824 := by unfold SH; omega

theorem quad_mask1 (x : Nat) (h : x < 268435456) : x &&& 268419072 = 16384 * (x / 16384) := by
  have e : x = 2 ^ 14 * (x / 16384) + x % 16384 := by omega
  have em : (268419072 : Nat) = 2 ^ 14 * (2 ^ 14 - 1) + 0 := by omega
  rw [em]
  conv => lhs; rw [e]
  rw [and_split 14 _ _ _ _ (by omega) (by omega), and_low 14 _ (by omega), Nat.and_zero, Nat.add_zero]
theorem half_mask (x : Nat) (h : x < 16384) : x &&& 16256 = 128 * (x / 128) := by
  have e : x = 2 ^ 7 * (x / 128) + x % 128 := by omega
  have em : (16256 : Nat) = 2 ^ 7 * (2 ^ 7 - 1) + 0 := by omega
  rw [em]
  conv => lhs; rw [e]
  rw [and_split 7 _ _ _ _ (by omega) (by omega), and_low 7 _ (by omega), Nat.and_zero, Nat.add_zero]
theorem quad_mask2 (x : Nat) (h : x < 268435456) : SH x &&& 1065369472 = 128 * (x % 16384 / 128) + 65536 * (128 * (x / 16384 / 128)) := by
  have e : SH x = 2 ^ 16 * (x / 16384) + x % 16384 := by unfold SH; omega
  have em : (1065369472 : Nat) = 2 ^ 16 * 16256 + 16256 := by omega
  rw [em, e, and_split 16 _ _ _ _ (by omega) (by omega), half_mask _ (by omega), half_mask _ (by omega)]
  omega
theorem quad_sum (x : Nat) (h : x < 268435456) : SH x + (128 * (x % 16384 / 128) + 65536 * (128 * (x / 16384 / 128))) = SQ x := by
  unfold SH SQ; omega
theorem quad_half (x : Nat) : x + 3 * (16384 * (x / 16384)) = SH x := by unfold SH; omega

/-- spreadQuad. -/
theorem spreadQuad_eq (x : Nat) (h : x < 268435456) :
    (((x : Int) + 3 * bits .and .u32 (x : Int) 268419072) % 4294967296 + bits .and .u32 (((x : Int) + 3 * bits .and .u32 (x : Int) 268419072) % 4294967296) 1065369472) % 4294967296 = (SQ x : Nat) := by
  have h1 : bits .and .u32 (x : Int) 268419072 = ((16384 * (x / 16384) : Nat) : Int) := by
    rw [and32 x 268419072 _ (by omega) (by omega) (by omega), quad_mask1 x h]
  rw [h1]
  have h2 : ((x : Int) + 3 * ((16384 * (x / 16384) : Nat) : Int)) % 4294967296 = ((SH x : Nat) : Int) := by
    have := SH_lt x h
    have hh := quad_half x
    omega
  rw [h2]
  have h3 : bits .and .u32 ((SH x : Nat) : Int) 1065369472 = ((128 * (x % 16384 / 128) + 65536 * (128 * (x / 16384 / 128)) : Nat) : Int) := by
    rw [and32 (SH x) 1065369472 _ (by omega) (by have := SH_lt x h; omega) (by omega), quad_mask2 x h]
  rw [h3]
  have hs := quad_sum x h
  have hq := SQ_lt x
  omega

/-- spreadGroups. -/
def SG (x : Nat) : Nat := 4294967296 * SQ (x / 268435456 % 268435456) + SQ (x % 268435456)

theorem low28 (x : Nat) : x &&& 268435455 = x % 268435456 := by
  have := Nat.and_two_pow_sub_one_eq_mod x 28
  simp only [Nat.reducePow, Nat.reduceSub] at this
  exact this
theorem mid28 (x : Nat) : x &&& 72057593769492480 = 268435456 * (x / 268435456 % 268435456) := by
  have e : x = 2 ^ 28 * (x / 268435456) + x % 268435456 := by omega
  have em : (72057593769492480 : Nat) = 2 ^ 28 * 268435455 + 0 := by omega
  rw [em]
  conv => lhs; rw [e]
  rw [and_split 28 _ _ _ _ (by omega) (by omega), low28, Nat.and_zero, Nat.add_zero]
theorem join32 (a b : Nat) (ha : a < 268435456) : a ||| (4294967296 * b) = 4294967296 * b + a := by
  have h := or_split 32 a 0 0 b (by omega) (by omega)
  rw [Nat.zero_or, Nat.or_zero] at h
  simp only [Nat.reducePow, Nat.mul_zero, Nat.zero_add, Nat.add_zero] at h
  exact h
theorem two_mask (m a b : Nat) (hm : m < 2 ^ 32) (ha : a < 2 ^ 32) : (4294967296 * b + a) &&& (4294967296 * m + m) = 4294967296 * (b &&& m) + (a &&& m) := by
  have h := and_split 32 a b m m ha hm
  simp only [Nat.reducePow] at h
  exact h

theorem four (m a b p q : Nat) : m * a + b + (m * p + q) = m * (a + p) + (b + q) := by rw [Nat.mul_add]; ac_rfl
theorem wrapNat (n : Nat) (h : n < 18446744073709551616) : IntKind.u64.wrap (n : Int) = (n : Int) := by rw [IntKind.wrap_u64]; omega

theorem spreadGroups_eq (x : Nat) (hx : x < 18446744073709551616) :
    IntKind.u64.wrap (IntKind.u64.wrap (bits .or .u64 (bits .and .u64 (x : Int) 268435455) (IntKind.u64.wrap (bits .and .u64 (x : Int) 72057593769492480 * 16)) +
      IntKind.u64.wrap (3 * bits .and .u64 (bits .or .u64 (bits .and .u64 (x : Int) 268435455) (IntKind.u64.wrap (bits .and .u64 (x : Int) 72057593769492480 * 16))) 1152851136131088384)) +
      bits .and .u64 (IntKind.u64.wrap (bits .or .u64 (bits .and .u64 (x : Int) 268435455) (IntKind.u64.wrap (bits .and .u64 (x : Int) 72057593769492480 * 16)) +
      IntKind.u64.wrap (3 * bits .and .u64 (bits .or .u64 (bits .and .u64 (x : Int) 268435455) (IntKind.u64.wrap (bits .and .u64 (x : Int) 72057593769492480 * 16))) 1152851136131088384))) 4575727041462157184) = ((SG x : Nat) : Int) := by
  obtain ⟨lo, hlo⟩ : ∃ lo, x % 268435456 = lo := ⟨_, rfl⟩
  obtain ⟨hi, hhi⟩ : ∃ hi, x / 268435456 % 268435456 = hi := ⟨_, rfl⟩
  have llo : lo < 268435456 := by omega
  have lhi : hi < 268435456 := by omega
  have a1 : bits .and .u64 (x : Int) 268435455 = (lo : Int) := by
    rw [and64 x 268435455 _ (by omega) hx (by omega), low28, hlo]
  have a2 : bits .and .u64 (x : Int) 72057593769492480 = ((268435456 * hi : Nat) : Int) := by
    rw [and64 x 72057593769492480 _ (by omega) hx (by omega), mid28, hhi]
  have a3 : IntKind.u64.wrap (((268435456 * hi : Nat) : Int) * 16) = ((4294967296 * hi : Nat) : Int) := by
    rw [show ((268435456 * hi : Nat) : Int) * 16 = ((4294967296 * hi : Nat) : Int) from by omega]; exact wrapNat _ (by omega)
  have a4 : bits .or .u64 (lo : Int) ((4294967296 * hi : Nat) : Int) = ((4294967296 * hi + lo : Nat) : Int) := by
    rw [u64_or_nat lo (4294967296 * hi) (by omega) (by omega), join32 lo hi llo]
  rw [a1, a2, a3, a4]
  have a5 : bits .and .u64 ((4294967296 * hi + lo : Nat) : Int) 1152851136131088384 = ((4294967296 * (16384 * (hi / 16384)) + 16384 * (lo / 16384) : Nat) : Int) := by
    rw [and64 (4294967296 * hi + lo) (4294967296 * 268419072 + 268419072) _ (by omega) (by omega) (by omega), two_mask 268419072 lo hi (by omega) (by omega), quad_mask1 hi lhi, quad_mask1 lo llo]
  rw [a5]
  have qh := quad_half hi
  have ql := quad_half lo
  have b1 := SH_lt hi lhi
  have b2 := SH_lt lo llo
  have a6 : IntKind.u64.wrap (((4294967296 * hi + lo : Nat) : Int) + IntKind.u64.wrap (3 * ((4294967296 * (16384 * (hi / 16384)) + 16384 * (lo / 16384) : Nat) : Int))) = ((4294967296 * SH hi + SH lo : Nat) : Int) := by
    rw [show (3 : Int) * ((4294967296 * (16384 * (hi / 16384)) + 16384 * (lo / 16384) : Nat) : Int) = ((3 * (4294967296 * (16384 * (hi / 16384)) + 16384 * (lo / 16384)) : Nat) : Int) from by omega]
    rw [wrapNat _ (by omega), ← Int.natCast_add, wrapNat _ (by omega)]
    refine congrArg (fun n : Nat => (n : Int)) ?_
    rw [← qh, ← ql, Nat.mul_add, Nat.mul_left_comm 3]
    exact four _ _ _ _ _
  rw [a6]
  have a7 : bits .and .u64 ((4294967296 * SH hi + SH lo : Nat) : Int) 4575727041462157184 = ((4294967296 * (SH hi &&& 1065369472) + (SH lo &&& 1065369472) : Nat) : Int) := by
    rw [and64 (4294967296 * SH hi + SH lo) (4294967296 * 1065369472 + 1065369472) _ (by omega) (by omega) (by omega), two_mask 1065369472 (SH lo) (SH hi) (by omega) (by omega)]
  rw [a7, quad_mask2 hi lhi, quad_mask2 lo llo]
  have sh := quad_sum hi lhi
  have sl := quad_sum lo llo
  have c1 := SQ_lt hi
  have c2 := SQ_lt lo
  have hG : SG x = 4294967296 * SQ hi + SQ lo := by unfold SG; rw [hlo, hhi]
  rw [hG, ← Int.natCast_add, wrapNat _ (by omega)]
  refine congrArg (fun n : Nat => (n : Int)) ?_
  rw [← sh, ← sl]
  exact four _ _ _ _ _

/-- pairWord. -/
theorem pairWord_eq (x : Nat) (h : x < 16384) :
    bits .or .u16 (bits .or .u16 (bits .and .u16 (x : Int) 127) (bits .and .u16 ((x : Int) * 2) 32512)) 128 = ((x % 128 + 128 + 256 * (x / 128) : Nat) : Int) := by
  have h1 : bits .and .u16 (x : Int) 127 = ((x % 128 : Nat) : Int) := by
    have h7 := Nat.and_two_pow_sub_one_eq_mod x 7
    simp only [Nat.reducePow, Nat.reduceSub] at h7
    rw [and16 x 127 _ (by omega) (by omega) (by omega), h7]
  have h2 : bits .and .u16 ((x : Int) * 2) 32512 = ((256 * (x / 128) : Nat) : Int) := by
    have e : x * 2 = 2 ^ 8 * (x / 128) + (x * 2) % 256 := by omega
    have em : (32512 : Nat) = 2 ^ 8 * (2 ^ 7 - 1) + 0 := by omega
    have hm : x * 2 &&& 32512 = 256 * (x / 128) := by
      rw [em]
      conv => lhs; rw [e]
      rw [and_split 8 _ _ _ _ (by omega) (by omega), and_low 7 _ (by omega), Nat.and_zero, Nat.add_zero]
    rw [show (x : Int) * 2 = ((x * 2 : Nat) : Int) by omega, and16 (x * 2) 32512 _ (by omega) (by omega) (by omega), hm]
  rw [h1, h2]
  have h3 : bits .or .u16 ((x % 128 : Nat) : Int) ((256 * (x / 128) : Nat) : Int) = ((256 * (x / 128) + x % 128 : Nat) : Int) := by
    have hj := or_split 8 (x % 128) 0 0 (x / 128) (by omega) (by omega)
    rw [Nat.zero_or, Nat.or_zero] at hj
    simp only [Nat.reducePow, Nat.mul_zero, Nat.zero_add, Nat.add_zero] at hj
    rw [u16_or_nat (x % 128) (256 * (x / 128)) (by omega) (by omega), hj]
  rw [h3]
  have hj := or_split 8 (x % 128) (x / 128) 128 0 (by omega) (by omega)
  have h128 : x % 128 ||| 128 = x % 128 + 128 := by
    have : ∀ y : Fin 128, y.val ||| 128 = y.val + 128 := by decide +kernel
    exact this ⟨x % 128, by omega⟩
  rw [Nat.or_zero, h128] at hj
  simp only [Nat.reducePow, Nat.mul_zero, Nat.zero_add] at hj
  rw [or16 (256 * (x / 128) + x % 128) 128 _ (by omega) (by omega) (by omega), hj]
  omega
end Go.Proofs.Qxb6608669aDoor
