/-
  appendOutOfLine (36) whole: into a row with room it lays the varint of x.
-/
import Derived.Test.Qxb6608669aDoorApp
namespace Go.Proofs.Qxb6608669aDoor
open Go.RowKit Go.Deep

/-- Bytes as the numbers that a row holds. -/
def ints (bs : List UInt8) : List Int := bs.map fun b => (b.toNat : Int)
theorem ints_small (f x : Nat) (h : x < 128) : ints (vbF (f + 1) x) = [(x : Int)] := by
  rw [vbF_small f x h]; simp only [ints, List.map]; rw [toNat_ofNat x (by omega)]
theorem ints_big (f x : Nat) (h : 128 ≤ x) : ints (vbF (f + 1) x) = ((x % 128 + 128 : Nat) : Int) :: ints (vbF f (x / 128)) := by
  rw [vbF_big f x (by omega)]; simp only [ints, List.map]; rw [toNat_ofNat _ (by omega)]
theorem ints_len (bs : List UInt8) : (ints bs).length = bs.length := by simp [ints]

theorem ints_four (f x : Nat) (h : 268435456 ≤ x) : ints (vbF (f + 4) x) =
    [((x % 128 + 128 : Nat) : Int), ((x / 128 % 128 + 128 : Nat) : Int), ((x / 16384 % 128 + 128 : Nat) : Int), ((x / 2097152 % 128 + 128 : Nat) : Int)] ++ ints (vbF f (x / 268435456)) := by
  rw [ints_big (f + 3) x (by omega), ints_big (f + 2) (x / 128) (by omega), ints_big (f + 1) (x / 128 / 128) (by omega), ints_big f (x / 128 / 128 / 128) (by omega)]
  simp only [Nat.div_div_eq_div_mul, Nat.reduceMul, List.cons_append, List.nil_append]
theorem ints_two (f x : Nat) (h1 : 128 ≤ x) (h2 : x < 16384) : ints (vbF (f + 2) x) = [((x % 128 + 128 : Nat) : Int), ((x / 128 : Nat) : Int)] := by
  rw [ints_big (f + 1) x h1, ints_small f (x / 128) (by omega)]
theorem ints_three (f x : Nat) (h1 : 16384 ≤ x) (h2 : x < 2097152) : ints (vbF (f + 3) x) = [((x % 128 + 128 : Nat) : Int), ((x / 128 % 128 + 128 : Nat) : Int), ((x / 16384 % 128 : Nat) : Int)] := by
  rw [ints_big (f + 2) x (by omega), ints_big (f + 1) (x / 128) (by omega), ints_small f (x / 128 / 128) (by omega), Nat.div_div_eq_div_mul, Nat.mod_eq_of_lt (show x / 16384 < 128 by omega)]
theorem ints_quad (f x : Nat) (h1 : 2097152 ≤ x) (h2 : x < 268435456) : ints (vbF (f + 4) x) = [((x % 128 + 128 : Nat) : Int), ((x / 128 % 128 + 128 : Nat) : Int), ((x / 16384 % 128 + 128 : Nat) : Int), ((x / 2097152 % 128 : Nat) : Int)] := by
  rw [ints_big (f + 3) x (by omega), ints_big (f + 2) (x / 128) (by omega), ints_big (f + 1) (x / 128 / 128) (by omega), ints_small f (x / 128 / 128 / 128) (by omega)]
  simp only [Nat.div_div_eq_div_mul, Nat.reduceMul]
  rw [Nat.mod_eq_of_lt (show x / 2097152 < 128 by omega)]

theorem put_three (L : Array Value) (i : Nat) (a b c : Int) : putL (putL L i [a, b]) (i + 1) [b, c] = putL L i [a, b, c] := by
  simp only [putL, Array.setIfInBounds_setIfInBounds]
theorem put_four (L : Array Value) (i : Nat) (a b c d : Int) : putL (putL L i [a, b]) (i + 2) [c, d] = putL L i [a, b, c, d] := rfl

/-- putThreeOrFour in one contract. -/
theorem quad44 (r i len cap x : Nat) (L : Array Value) (hi : i + 4 ≤ L.size) (hl : 4 ≤ len) (h1 : 16384 ≤ x) (hx : x < 268435456) (f : Nat) :
    ∀ w : World, w.heap[r]? = some (.cells L 5 (0, 0)) → Calls Tryd.prog 44 #[.slice (some ⟨r, i, none⟩) len cap, .int .u64 x] w fun e w' => e = .returned (.int .i64 ((vbF (f + 4) x).length : Nat)) ∧
      w'.heap[r]? = some (.cells (putL L i (ints (vbF (f + 4) x))) 5 (0, 0)) ∧ Keep w.heap.size r w w' := by
  intro w hr
  by_cases h2 : x < 2097152
  · have hI := ints_three (f + 1) x h1 h2
    have hlen := congrArg List.length hI
    rw [ints_len] at hlen
    rw [hI, hlen, ← put_three]
    exact three_any r i len cap x L w hr hi hl h2
  · have hI := ints_quad f x (by omega) hx
    have hlen := congrArg List.length hI
    rw [ints_len] at hlen
    rw [hI, hlen, ← put_four]
    exact four_any r i len cap x L w hr hi hl (by omega) hx

/-- appendOutOfLine into a row with room. -/
theorem appendOut_any (r n c x : Nat) (L : Array Value) (w : World) (hr : w.heap[r]? = some (.cells L 5 (0, 0))) (hs : n + c ≤ L.size) (hc : 10 ≤ c) (hcm : c ≤ 9223372036854775807) (h1 : 128 ≤ x) (hx : x < 18446744073709551616) :
    Calls Tryd.prog 36 #[.slice (some ⟨r, n, none⟩) 0 c, .int .u64 x] w fun e w' => e = .returned (.slice (some ⟨r, n, none⟩) (vb x).length c) ∧
      w'.heap[r]? = some (.cells (putL L n (ints (vb x))) 5 (0, 0)) ∧ Keep w.heap.size r w w' := by
  have hvb : vb x = vbF 10 x := rfl
  rw [hvb]
  by_cases c1 : x < 16384
  · have hI := ints_two 8 x h1 c1
    have hlen := congrArg List.length hI
    rw [ints_len] at hlen
    rw [hI, hlen]
    exact out_two r n c x L w hr hs hc h1 c1
  by_cases c2 : x < 268435456
  · have hl4 : (vbF 10 x).length ≤ 10 := by
      by_cases h2 : x < 2097152
      · have hlen := congrArg List.length (ints_three 7 x (by omega) h2); rw [ints_len] at hlen; rw [hlen]; simp only [List.length]; omega
      · have hlen := congrArg List.length (ints_quad 6 x (by omega) c2); rw [ints_len] at hlen; rw [hlen]; simp only [List.length]; omega
    exact out_quad r n c x (vbF 10 x).length L _ w hr hc hcm (by omega) c2 hl4 (quad44 r n c c x L (by omega) (by omega) (by omega) c2 6)
  by_cases c3 : 72057594037927936 ≤ x
  · have h8 : ints (vbF 10 x) = octet x ++ ints (vbF 2 (x / 72057594037927936)) := by
      rw [ints_four 6 x (by omega), ints_four 2 (x / 268435456) (by omega)]
      simp only [Nat.div_div_eq_div_mul, Nat.reduceMul]
      rw [← List.append_assoc]
      rfl
    by_cases c4 : x < 9223372036854775808
    · have hI : ints (vbF 10 x) = octet x ++ [((x / 72057594037927936 : Nat) : Int)] := by rw [h8, ints_small 1 _ (by omega)]
      have hlen := congrArg List.length hI
      rw [ints_len] at hlen
      rw [hI, hlen]
      exact out_big r n c x 9 L _ w hr hc hcm c3 (by omega) (fun w' hr' => nine_any r n c c x L w' hr' (by omega) (by omega) c4)
    · have hI : ints (vbF 10 x) = octet x ++ [((x / 72057594037927936 : Nat) : Int), 1] := by
        rw [h8, ints_two 0 _ (by omega) (by omega)]
        have e1 : x / 72057594037927936 % 128 + 128 = x / 72057594037927936 := by omega
        have e2 : x / 72057594037927936 / 128 = 1 := by omega
        rw [e1, e2]; rfl
      have hlen := congrArg List.length hI
      rw [ints_len] at hlen
      rw [hI, hlen]
      exact out_big r n c x 10 L _ w hr hc hcm c3 (by omega) (fun w' hr' => ten_any r n c c x L w' hr' (by omega) (by omega) (by omega) hx)
  have h4 : ∀ B, putL L n ([((x % 128 + 128 : Nat) : Int), ((x / 128 % 128 + 128 : Nat) : Int), ((x / 16384 % 128 + 128 : Nat) : Int), ((x / 2097152 % 128 + 128 : Nat) : Int)] ++ B) = putL (first4 L n (x % 268435456)) (n + 4) B := by
    intro B
    rw [putL_append]
    unfold first4
    have g := grp x
    rw [g.1, g.2.1, g.2.2.1, g.2.2.2]
    rfl
  have hf4 : ints (vbF 10 x) = _ := ints_four 6 x (by omega)
  have hsz : (first4 L n (x % 268435456)).size = L.size := putL_size _ _ _
  by_cases c5 : x < 34359738368
  · rw [ints_small 5 _ (by omega)] at hf4
    have hlen := congrArg List.length hf4
    rw [ints_len] at hlen
    rw [hf4, hlen, h4]
    exact out_five r n c x _ _ L w hr hs hc hcm (by omega) c5 rfl rfl
  by_cases c6 : x < 4398046511104
  · rw [ints_two 4 _ (by omega) (by omega)] at hf4
    have hlen := congrArg List.length hf4
    rw [ints_len] at hlen
    rw [hf4, hlen, h4]
    exact out_six r n c x _ _ 2 L _ w hr hs hc hcm (by omega) c6 rfl rfl (by omega) (fun w' hr' => putPair_any r (n + 4) (c - 4) (c - 4) _ _ w' hr' (by omega) (by omega) (by omega))
  · have hl4 : (vbF 6 (x / 268435456)).length ≤ 6 := by
      by_cases h2 : x / 268435456 < 2097152
      · have hlen := congrArg List.length (ints_three 3 _ (by omega) h2); rw [ints_len] at hlen; rw [hlen]; simp only [List.length]; omega
      · have hlen := congrArg List.length (ints_quad 2 _ (by omega) (by omega : x / 268435456 < 268435456)); rw [ints_len] at hlen; rw [hlen]; simp only [List.length]; omega
    have hlen := congrArg List.length hf4
    rw [ints_len, List.length_append, ints_len] at hlen
    rw [hf4, hlen, h4]
    exact out_seven r n c x _ _ _ L _ w hr hs hc hcm (by omega) (by omega) rfl rfl hl4 (quad44 r (n + 4) (c - 4) (c - 4) _ _ (by omega) (by omega) (by omega) (by omega) 2)

theorem ints_cells (bs : List UInt8) : (ints bs).map (Value.int .u8) = Lib.byteCells bs := by
  simp [ints, Lib.byteCells]
theorem vbF_len : ∀ (f x : Nat), (vbF f x).length ≤ f
  | 0, _ => Nat.le_refl _
  | f + 1, x => by
    by_cases h : x < 128
    · rw [vbF_small f x h]; simp
    · rw [vbF_big f x h, List.length_cons]; have := vbF_len f (x / 128); omega
theorem vb_pos (x : Nat) : 1 ≤ (vb x).length := by
  unfold vb
  by_cases h : x < 128
  · rw [vbF_small 9 x h]; simp
  · rw [vbF_big 9 x h, List.length_cons]; omega

/-- The same in lists. -/
theorem appendOut_list (r n c x : Nat) (P M : List Value) (w : World) (hr : w.heap[r]? = some (.cells (P ++ M).toArray 5 (0, 0))) (hP : P.length = n) (hM : M.length = c) (hc : 10 ≤ c) (hcm : c ≤ 9223372036854775807) (h1 : 128 ≤ x) (hx : x < 18446744073709551616) :
    Calls Tryd.prog 36 #[.slice (some ⟨r, n, none⟩) 0 c, .int .u64 x] w fun e w' => e = .returned (.slice (some ⟨r, n, none⟩) (vb x).length c) ∧
      w'.heap[r]? = some (.cells (P ++ (Lib.byteCells (vb x) ++ M.drop (vb x).length)).toArray 5 (0, 0)) ∧ Keep w.heap.size r w w' := by
  have hl := vbF_len 10 x
  have h := appendOut_any r n c x _ w hr (by simp; omega) hc hcm h1 hx
  rw [putL_list (ints (vb x)) P M n hP (by rw [ints_len, hM]; unfold vb; omega), ints_cells, ints_len] at h
  exact h
end Go.Proofs.Qxb6608669aDoor
