/-
  The varint in plain words: the shortest base-128 text of a number, low group first. No walk here.
-/
import Derived.Laws.Bits64
namespace Go.Proofs.Qxb6608669aDoor

/-- The varint of x, by fuel: f bytes suffice where x < 128 ^ f. -/
def vbF : Nat → Nat → List UInt8
  | 0, _ => []
  | f + 1, x => if x < 128 then [UInt8.ofNat x] else UInt8.ofNat (x % 128 + 128) :: vbF f (x / 128)
/-- The varint of a 64-bit number. -/
def vb (x : Nat) : List UInt8 := vbF 10 x

theorem vbF_small (f x : Nat) (h : x < 128) : vbF (f + 1) x = [UInt8.ofNat x] := by simp [vbF, h]
theorem vbF_big (f x : Nat) (h : ¬ x < 128) : vbF (f + 1) x = UInt8.ofNat (x % 128 + 128) :: vbF f (x / 128) := by simp [vbF, h]

theorem toNat_ofNat (a : Nat) (h : a < 256) : (UInt8.ofNat a).toNat = a := by
  simp only [UInt8.toNat_ofNat']; omega

/-- More fuel changes nothing. -/
theorem vbF_more : ∀ (f x : Nat), x < 128 ^ f → 1 ≤ f → vbF (f + 1) x = vbF f x
  | 0, x, h, h1 => by omega
  | 1, x, h, _ => by
    have hx : x < 128 := by simpa using h
    rw [vbF_small 1 x hx, vbF_small 0 x hx]
  | f + 2, x, h, _ => by
    by_cases hx : x < 128
    · rw [vbF_small _ x hx, vbF_small _ x hx]
    · rw [vbF_big _ x hx, vbF_big _ x hx, vbF_more (f + 1) (x / 128) (by rw [Nat.pow_succ] at h; exact Nat.div_lt_of_lt_mul (by rw [Nat.mul_comm]; exact h)) (by omega)]
theorem vbF_add (f x : Nat) (h : x < 128 ^ f) (h1 : 1 ≤ f) : ∀ d, vbF (f + d) x = vbF f x
  | 0 => rfl
  | d + 1 => by
    have := vbF_more (f + d) x (Nat.lt_of_lt_of_le h (Nat.pow_le_pow_right (by decide) (Nat.le_add_right f d))) (by omega)
    rw [show f + (d + 1) = f + d + 1 from rfl, this, vbF_add f x h h1 d]
theorem vb_eq (f x : Nat) (h : x < 128 ^ f) (h1 : 1 ≤ f) (hf : f ≤ 10) : vb x = vbF f x := by
  unfold vb
  have := vbF_add f x h h1 (10 - f)
  rwa [show f + (10 - f) = 10 from by omega] at this

theorem or128 (x : Nat) : bits .or .u8 (((x % 256 : Nat)) : Int) 128 = ((x % 128 + 128 : Nat) : Int) := by
  have h : ∀ y : Fin 256, bits .or .u8 ((y.val : Nat) : Int) 128 = ((y.val % 128 + 128 : Nat) : Int) := by decide +kernel
  have := h ⟨x % 256, by omega⟩
  simp only at this
  rw [this]
  congr 1
  omega
end Go.Proofs.Qxb6608669aDoor
