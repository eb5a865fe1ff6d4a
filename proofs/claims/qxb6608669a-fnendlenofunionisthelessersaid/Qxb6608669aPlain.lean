/-
  The plain law of 'endLen': over masks of high bits it is the 1-based place of the lowest set byte. No walk here.
-/
import Derived.Test.Qxb6608669aWalks
namespace Go.Proofs.Qxb6608669a.Ends
open Go.RowKit

/-- The word whose byte i has its high bit set where b_i says so. -/
def spread (b0 b1 b2 b3 b4 b5 b6 b7 : Bool) : BitVec 64 :=
  (cond b0 0x80#64 0#64) ||| (cond b1 0x8000#64 0#64) ||| (cond b2 0x800000#64 0#64) ||| (cond b3 0x80000000#64 0#64) |||
  (cond b4 0x8000000000#64 0#64) ||| (cond b5 0x800000000000#64 0#64) ||| (cond b6 0x80000000000000#64 0#64) ||| (cond b7 0x8000000000000000#64 0#64)

/-- The place of the first true, counted from k. -/
def firstTrue : List Bool → Int → Int
  | [], k => k
  | b :: bs, k => if b then k else firstTrue bs (k + 1)

theorem firstTrue_ge : ∀ (l : List Bool) (k : Int), k ≤ firstTrue l k
  | [], k => by simp [firstTrue]
  | b :: bs, k => by
    have := firstTrue_ge bs (k + 1)
    simp only [firstTrue]; split <;> omega

theorem firstTrue_or : ∀ (l m : List Bool) (k : Int), l.length = m.length →
    firstTrue (l.zipWith (fun a b => a || b) m) k = min (firstTrue l k) (firstTrue m k)
  | [], [], k, _ => by simp [firstTrue]
  | a :: l, b :: m, k, h => by
    have ih := firstTrue_or l m (k + 1) (by simpa using h)
    have g1 := firstTrue_ge l (k + 1)
    have g2 := firstTrue_ge m (k + 1)
    cases a <;> cases b <;> simp only [List.zipWith, firstTrue, Bool.or_false, Bool.or_true, if_true, Bool.false_eq_true, if_false]
    · exact ih
    · omega
    · omega
    · omega
  | [], b :: m, k, h => by simp at h
  | a :: l, [], k, h => by simp at h

theorem cond_bit (b : Bool) (c : BitVec 64) (i : Nat) : (cond b c 0#64).getLsbD i = (b && c.getLsbD i) := by
  cases b <;> simp

set_option maxRecDepth 100000 in
theorem spread_or (a0 a1 a2 a3 a4 a5 a6 a7 b0 b1 b2 b3 b4 b5 b6 b7 : Bool) :
    spread a0 a1 a2 a3 a4 a5 a6 a7 ||| spread b0 b1 b2 b3 b4 b5 b6 b7 =
      spread (a0 || b0) (a1 || b1) (a2 || b2) (a3 || b3) (a4 || b4) (a5 || b5) (a6 || b6) (a7 || b7) := by
  have key : ∀ (a b : Bool) (c : BitVec 64), cond (a || b) c 0#64 = cond a c 0#64 ||| cond b c 0#64 := by
    intro a b c; cases a <;> cases b <;> simp
  unfold spread
  rw [key a0, key a1, key a2, key a3, key a4, key a5, key a6, key a7]
  ac_rfl

theorem getBit_none (x : BitVec 64) (h : x &&& ~~~0x8080808080808080#64 = 0#64) (i : Nat) (hi : i < 64)
    (hm : (0x8080808080808080#64).getLsbD i = false) : x.getLsbD i = false := by
  have := congrArg (fun y => y.getLsbD i) h
  simp only [BitVec.getLsbD_and, BitVec.getLsbD_not, hi, hm, decide_true, Bool.not_false, Bool.and_true, BitVec.getLsbD_zero] at this
  exact this

theorem mask_bits (i : Nat) (h : i < 64) : (0x8080808080808080#64).getLsbD i = (i % 8 == 7) := by
  have : ∀ i : Fin 64, (0x8080808080808080#64).getLsbD i.val = (i.val % 8 == 7) := by decide +kernel
  exact this ⟨i, h⟩

theorem bit_consts (i : Nat) (h : i < 64) : (0x80#64).getLsbD i = (i == 7) ∧ (0x8000#64).getLsbD i = (i == 15) ∧ (0x800000#64).getLsbD i = (i == 23) ∧
    (0x80000000#64).getLsbD i = (i == 31) ∧ (0x8000000000#64).getLsbD i = (i == 39) ∧ (0x800000000000#64).getLsbD i = (i == 47) ∧
    (0x80000000000000#64).getLsbD i = (i == 55) ∧ (0x8000000000000000#64).getLsbD i = (i == 63) := by
  have : ∀ i : Fin 64, (0x80#64).getLsbD i.val = (i.val == 7) ∧ (0x8000#64).getLsbD i.val = (i.val == 15) ∧ (0x800000#64).getLsbD i.val = (i.val == 23) ∧
    (0x80000000#64).getLsbD i.val = (i.val == 31) ∧ (0x8000000000#64).getLsbD i.val = (i.val == 39) ∧ (0x800000000000#64).getLsbD i.val = (i.val == 47) ∧
    (0x80000000000000#64).getLsbD i.val = (i.val == 55) ∧ (0x8000000000000000#64).getLsbD i.val = (i.val == 63) := by decide +kernel
  exact this ⟨i, h⟩

theorem is_spread (x : BitVec 64) (h : x &&& ~~~0x8080808080808080#64 = 0#64) :
    x = spread (x.getLsbD 7) (x.getLsbD 15) (x.getLsbD 23) (x.getLsbD 31) (x.getLsbD 39) (x.getLsbD 47) (x.getLsbD 55) (x.getLsbD 63) := by
  apply BitVec.eq_of_getLsbD_eq
  intro i hi
  have hn := getBit_none x h i hi
  rw [mask_bits i hi] at hn
  obtain ⟨c0, c1, c2, c3, c4, c5, c6, c7⟩ := bit_consts i hi
  unfold spread
  simp only [BitVec.getLsbD_or, cond_bit, c0, c1, c2, c3, c4, c5, c6, c7]
  by_cases hm : i % 8 = 7
  · have : i = 7 ∨ i = 15 ∨ i = 23 ∨ i = 31 ∨ i = 39 ∨ i = 47 ∨ i = 55 ∨ i = 63 := by omega
    rcases this with rfl | rfl | rfl | rfl | rfl | rfl | rfl | rfl <;> simp
  · rw [hn (by simpa using hm)]
    have e7 : (i == 7) = false := by simp; omega
    have e15 : (i == 15) = false := by simp; omega
    have e23 : (i == 23) = false := by simp; omega
    have e31 : (i == 31) = false := by simp; omega
    have e39 : (i == 39) = false := by simp; omega
    have e47 : (i == 47) = false := by simp; omega
    have e55 : (i == 55) = false := by simp; omega
    have e63 : (i == 63) = false := by simp; omega
    rw [e7, e15, e23, e31, e39, e47, e55, e63]
    simp

theorem ofInt_toNat (a : Int) (h0 : 0 ≤ a) (h1 : a < 18446744073709551616) : ((BitVec.ofInt 64 a).toNat : Int) = a := by
  rw [BitVec.toNat_ofInt]; omega

theorem ofInt_of_toNat (x : BitVec 64) : BitVec.ofInt 64 (x.toNat : Int) = x := by
  rw [BitVec.ofInt_natCast]; simp

/-- The masks: 'isEnds a' says that a is a spread with one bit or more. -/
theorem ends_spread (a : Int) (h0 : 0 ≤ a) (h1 : a < 18446744073709551616) (h : isEnds a = true) :
    ∃ b0 b1 b2 b3 b4 b5 b6 b7, a = ((spread b0 b1 b2 b3 b4 b5 b6 b7).toNat : Int) ∧ (b0 || b1 || b2 || b3 || b4 || b5 || b6 || b7) = true := by
  unfold isEnds at h
  simp only [Bool.and_eq_true, bne_iff_ne, ne_eq, beq_iff_eq] at h
  obtain ⟨hne, hb⟩ := h
  have hx : (BitVec.ofInt 64 a) &&& ~~~0x8080808080808080#64 = 0#64 := by
    apply BitVec.eq_of_toNat_eq
    have hw : IntKind.u64.wrap (((BitVec.ofInt 64 a) &&& ~~~(BitVec.ofInt 64 9259542123273814144)).toNat : Int) = 0 := hb
    have hlt := ((BitVec.ofInt 64 a) &&& ~~~(BitVec.ofInt 64 9259542123273814144)).isLt
    rw [IntKind.wrap_u64] at hw
    have e : (BitVec.ofInt 64 9259542123273814144) = 0x8080808080808080#64 := by decide +kernel
    rw [e] at hw hlt
    simp only [BitVec.toNat_ofNat]
    omega
  have hs := is_spread _ hx
  refine ⟨(BitVec.ofInt 64 a).getLsbD 7, (BitVec.ofInt 64 a).getLsbD 15, (BitVec.ofInt 64 a).getLsbD 23, (BitVec.ofInt 64 a).getLsbD 31, (BitVec.ofInt 64 a).getLsbD 39, (BitVec.ofInt 64 a).getLsbD 47, (BitVec.ofInt 64 a).getLsbD 55, (BitVec.ofInt 64 a).getLsbD 63, ?_, ?_⟩
  · rw [← hs]; exact (ofInt_toNat a h0 h1).symm
  · cases hall : ((BitVec.ofInt 64 a).getLsbD 7 || (BitVec.ofInt 64 a).getLsbD 15 || (BitVec.ofInt 64 a).getLsbD 23 || (BitVec.ofInt 64 a).getLsbD 31 || (BitVec.ofInt 64 a).getLsbD 39 || (BitVec.ofInt 64 a).getLsbD 47 || (BitVec.ofInt 64 a).getLsbD 55 || (BitVec.ofInt 64 a).getLsbD 63)
    · exfalso
      simp only [Bool.or_eq_false_iff] at hall
      obtain ⟨⟨⟨⟨⟨⟨⟨g0, g1⟩, g2⟩, g3⟩, g4⟩, g5⟩, g6⟩, g7⟩ := hall
      rw [g0, g1, g2, g3, g4, g5, g6, g7] at hs
      have hz := ofInt_toNat a h0 h1
      rw [hs] at hz
      exact hne (by rw [← hz]; decide +kernel)
    · rfl

theorem len_spread : ∀ b0 b1 b2 b3 b4 b5 b6 b7 : Bool, (b0 || b1 || b2 || b3 || b4 || b5 || b6 || b7) = true →
    endLen ((spread b0 b1 b2 b3 b4 b5 b6 b7).toNat : Int) = firstTrue [b0, b1, b2, b3, b4, b5, b6, b7] 1 := by decide +kernel

theorem or_spread (x y : BitVec 64) : bits .or .u64 (x.toNat : Int) (y.toNat : Int) = ((x ||| y).toNat : Int) := by
  show IntKind.u64.wrap ((BitVec.ofInt 64 (x.toNat : Int) ||| BitVec.ofInt 64 (y.toNat : Int)).toNat : Int) = _
  rw [ofInt_of_toNat, ofInt_of_toNat, IntKind.wrap_u64]
  have := (x ||| y).isLt
  omega

theorem endLen_or (a b : Int) (a0 : 0 ≤ a) (a1 : a < 18446744073709551616) (b0 : 0 ≤ b) (b1 : b < 18446744073709551616) (ha : isEnds a = true) (hb : isEnds b = true) :
    endLen (bits .or .u64 a b) = min (endLen a) (endLen b) := by
  obtain ⟨p0, p1, p2, p3, p4, p5, p6, p7, rfl, hp⟩ := ends_spread a a0 a1 ha
  obtain ⟨q0, q1, q2, q3, q4, q5, q6, q7, rfl, hq⟩ := ends_spread b b0 b1 hb
  rw [or_spread, spread_or, len_spread _ _ _ _ _ _ _ _ hp, len_spread _ _ _ _ _ _ _ _ hq, len_spread]
  · exact firstTrue_or [p0, p1, p2, p3, p4, p5, p6, p7] [q0, q1, q2, q3, q4, q5, q6, q7] 1 rfl
  · simp only [Bool.or_eq_true] at hp ⊢
    rcases hp with ((((((h | h) | h) | h) | h) | h) | h) | h <;> simp [h]
end Go.Proofs.Qxb6608669a.Ends
