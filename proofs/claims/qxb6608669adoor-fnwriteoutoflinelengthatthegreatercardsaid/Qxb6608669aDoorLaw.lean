/-
  FnWriteOutOfLineLengthAtTheGreater (6): she returns true.
-/
import Derived.Test.Qxb6608669aDoorWriteOf
namespace Go.Proofs.Qxb6608669aDoor
open Go.RowKit Go.Deep

theorem max_len (x y mx : Nat) (hmx : mx = max x y) : (vb mx).length = max (vb x).length (vb y).length := by
  by_cases h : x ≤ y
  · have := vb_mono x y h
    rw [hmx, Nat.max_eq_right h, Nat.max_eq_right this]
  · have := vb_mono y x (by omega)
    rw [hmx, Nat.max_eq_left (by omega), Nat.max_eq_left this]

theorem PreIs.mono {pv : Value} {pre : List UInt8} {lo lo' : Nat} {w : World} (h : PreIs pv pre lo w) (hl : lo ≤ lo') : PreIs pv pre lo' w := by
  rcases h with h | ⟨g, h1, h2, h3⟩
  · exact Or.inl h
  · exact Or.inr ⟨g, h1, Nat.lt_of_lt_of_le h2 hl, h3⟩

set_option maxHeartbeats 8000000 in
set_option maxRecDepth 100000 in
theorem law_main (s : Int) (ao : Option Addr) (m c : Nat) (pre : List UInt8) (x y mx : Nat) (w : World) (hp : BytesAt (.slice ao m c) pre w) (hm : pre.length = m) (h : m ≤ 1048576) (hs : s ≤ 65536)
    (hx : x < 18446744073709551616) (hy : y < 18446744073709551616) (hmx : mx = max x y) (bxy : Bool) (hxy : decide (x < y) = bxy) :
    Calls Tryd.prog 6 #[.int .i64 s, .slice ao m c, .int .u64 x, .int .u64 y] w fun e w' => e = .returned (.bool true) ∧ Below w.heap.size w w' := by
  have hz := zzBytes_any s ao m c x y w
  rw [decide_eq_true h] at hz
  have d : decide ((1048576 : Int) < (m : Int)) = false := decide_eq_false (by omega)
  have d2 : decide ((65536 : Int) < s) = false := decide_eq_false (by omega)
  have HP : Hid (BytesAt (.slice ao m c) pre w) := hp
  have HX := Lib.hid hx
  have HY := Lib.hid hy
  have HMX := Lib.hid hmx
  have hlim : pre.length ≤ 1048576 := by omega
  clear hp hx hy hmx hm
  go_enter Tryd.func6, Tryd.ntmps6
  go_wp2_with fail
  refine hz.mono ?_
  rintro e w' ⟨rfl, rfl⟩
  clear hz
  go_wp2_with fail
  refine (clone_any _ pre w HP.out hlim).mono ?_
  rintro e w1 ⟨v1, rfl, hP1, hA1, hb1⟩
  have HP1 := Lib.hid hP1
  have HA1 := Lib.hid hA1
  have HB1 := Lib.hid hb1
  clear hP1 hA1 hb1
  go_wp2_with fail
  refine (clone_any v1 pre w1 HA1.out hlim).mono ?_
  rintro e w2 ⟨v2, rfl, hP2, hA2, hb2⟩
  have HP2 := Lib.hid hP2
  have HP1' := Lib.hid (HP1.out.below hb2)
  have HB2 := Lib.hid hb2
  clear hP2 hA2 hb2
  have HQ2 := Lib.hid (HP1'.out.mono HB2.out.size)
  have HK2 := HP2
  have HML : Hid ((vb mx).length = max (vb x).length (vb y).length) := Lib.hid (max_len x y mx HMX.out)
  cases bxy
  · have hmx2 : mx = x := by
      have := HMX.out; have := of_decide_eq_false hxy; omega
    rw [hmx2] at HML
    clear hmx2 HMX
    go_wp2_with fail
    refine (bufio_any w2.heap.size s v1 pre x w2 rfl HQ2.out hs hlim HX.out).mono ?_
    rintro e w3 ⟨gx, cx, curx, rfl, -, hrx, hlx, -, htx, hb3⟩
    obtain ⟨lx, elx⟩ : ∃ lx, (pre ++ vb x).length = lx := ⟨_, rfl⟩
    obtain ⟨nx, enx⟩ : ∃ nx, (vb x).length = nx := ⟨_, rfl⟩
    have HRX : Hid (Row gx (pre ++ vb x) w3) := Lib.hid ⟨curx, hrx, htx⟩
    have HELX := Lib.hid elx
    have HENX := Lib.hid enx
    rw [elx] at hlx ⊢
    rw [enx]
    have HQ3 := Lib.hid ((HQ2.out.below hb3).mono hb3.size)
    have HK3 := Lib.hid ((HK2.out.below hb3).mono hb3.size)
    have HB3 := Lib.hid hb3
    clear hrx htx hb3 elx enx
    go_wp2_with fail
    refine (bufio_any w3.heap.size s v1 pre y w3 rfl HQ3.out hs hlim HY.out).mono ?_
    rintro e w4 ⟨gy, cy, cury, rfl, -, hry, hly, -, hty, hb4⟩
    obtain ⟨ly, ely⟩ : ∃ ly, (pre ++ vb y).length = ly := ⟨_, rfl⟩
    obtain ⟨ny, eny⟩ : ∃ ny, (vb y).length = ny := ⟨_, rfl⟩
    have HRY : Hid (Row gy (pre ++ vb y) w4) := Lib.hid ⟨cury, hry, hty⟩
    have HRX4 := Lib.hid (HRX.out.below hb4 rfl)
    have HELY := Lib.hid ely
    have HENY := Lib.hid eny
    rw [ely] at hly ⊢
    rw [eny]
    have HQ4 := Lib.hid ((HQ3.out.below hb4).mono hb4.size)
    have HK4 := Lib.hid ((HK3.out.below hb4).mono hb4.size)
    have HB4 := Lib.hid hb4
    clear hry hty hb4 ely eny
    go_wp2_with fail
    refine (bufio_any w4.heap.size s v1 pre x w4 rfl HQ4.out hs hlim HX.out).mono ?_
    rintro e w5 ⟨gm, cm, curm, rfl, -, hrm, hlm, -, htm, hb5⟩
    obtain ⟨lm, elm⟩ : ∃ lm, (pre ++ vb x).length = lm := ⟨_, rfl⟩
    obtain ⟨nm, enm⟩ : ∃ nm, (vb x).length = nm := ⟨_, rfl⟩
    have HRM : Hid (Row gm (pre ++ vb x) w5) := Lib.hid ⟨curm, hrm, htm⟩
    have HRX5 := Lib.hid (HRX4.out.below hb5 rfl)
    have HRY5 := Lib.hid (HRY.out.below hb5 rfl)
    have HELM := Lib.hid elm
    have HENM := Lib.hid enm
    rw [elm] at hlm ⊢
    rw [enm]
    have HK5 := Lib.hid ((HK4.out.below hb5).mono hb5.size)
    have HB5 := Lib.hid hb5
    clear hrm htm hb5 elm enm
    have hmax : max nx ny = nm := by rw [← HENX.out, ← HENY.out, ← HENM.out]; exact HML.out.symm
    have HMI := Lib.hid hmax
    clear hmax
    go_wp2_with fail
    refine (isWrite_row gx cx x w5.heap.size lx nx v2 pre w5 HK5.out HX.out hlim HRX5.out HELX.out HENX.out hlx).mono ?_
    rintro e w6 ⟨rfl, n6, rfl⟩
    go_wp2_with fail
    refine (isWrite_row gy cy y w5.heap.size ly ny v2 pre (w5.drewN n6) HK5.out HY.out hlim HRY5.out HELY.out HENY.out hly).mono ?_
    rintro e w7 ⟨rfl, n7, rfl⟩
    go_wp2_with fail
    refine (isWrite_row gm cm x w5.heap.size lm nm v2 pre (w5.drewN (n6 + n7)) HK5.out HX.out hlim HRM.out HELM.out HENM.out hlm).mono ?_
    rintro e w8 ⟨rfl, n8, rfl⟩
    have hmi := fun w => maxInt_any nx ny w
    rw [HMI.out] at hmi
    go_wp2_with fail
    refine (hmi _).mono ?_
    rintro e w9 ⟨rfl, rfl⟩
    go_wp2_with fail
    go_ret
    refine ⟨rfl, ?_⟩
    have q2 : w.heap.size ≤ w1.heap.size := HB1.out.size
    have q3 : w.heap.size ≤ w2.heap.size := Nat.le_trans q2 HB2.out.size
    have q4 : w.heap.size ≤ w3.heap.size := Nat.le_trans q3 HB3.out.size
    have q5 : w.heap.size ≤ w4.heap.size := Nat.le_trans q4 HB4.out.size
    exact ((((HB1.out.trans (HB2.out.mono q2)).trans (HB3.out.mono q3)).trans (HB4.out.mono q4)).trans (HB5.out.mono q5)).trans ⟨rfl, rfl, rfl, Nat.le_refl _, fun _ _ => rfl⟩
  · have hmx2 : mx = y := by
      have := HMX.out; have := of_decide_eq_true hxy; omega
    rw [hmx2] at HML
    clear hmx2 HMX
    go_wp2_with fail
    refine (bufio_any w2.heap.size s v1 pre x w2 rfl HQ2.out hs hlim HX.out).mono ?_
    rintro e w3 ⟨gx, cx, curx, rfl, -, hrx, hlx, -, htx, hb3⟩
    obtain ⟨lx, elx⟩ : ∃ lx, (pre ++ vb x).length = lx := ⟨_, rfl⟩
    obtain ⟨nx, enx⟩ : ∃ nx, (vb x).length = nx := ⟨_, rfl⟩
    have HRX : Hid (Row gx (pre ++ vb x) w3) := Lib.hid ⟨curx, hrx, htx⟩
    have HELX := Lib.hid elx
    have HENX := Lib.hid enx
    rw [elx] at hlx ⊢
    rw [enx]
    have HQ3 := Lib.hid ((HQ2.out.below hb3).mono hb3.size)
    have HK3 := Lib.hid ((HK2.out.below hb3).mono hb3.size)
    have HB3 := Lib.hid hb3
    clear hrx htx hb3 elx enx
    go_wp2_with fail
    refine (bufio_any w3.heap.size s v1 pre y w3 rfl HQ3.out hs hlim HY.out).mono ?_
    rintro e w4 ⟨gy, cy, cury, rfl, -, hry, hly, -, hty, hb4⟩
    obtain ⟨ly, ely⟩ : ∃ ly, (pre ++ vb y).length = ly := ⟨_, rfl⟩
    obtain ⟨ny, eny⟩ : ∃ ny, (vb y).length = ny := ⟨_, rfl⟩
    have HRY : Hid (Row gy (pre ++ vb y) w4) := Lib.hid ⟨cury, hry, hty⟩
    have HRX4 := Lib.hid (HRX.out.below hb4 rfl)
    have HELY := Lib.hid ely
    have HENY := Lib.hid eny
    rw [ely] at hly ⊢
    rw [eny]
    have HQ4 := Lib.hid ((HQ3.out.below hb4).mono hb4.size)
    have HK4 := Lib.hid ((HK3.out.below hb4).mono hb4.size)
    have HB4 := Lib.hid hb4
    clear hry hty hb4 ely eny
    go_wp2_with fail
    refine (bufio_any w4.heap.size s v1 pre y w4 rfl HQ4.out hs hlim HY.out).mono ?_
    rintro e w5 ⟨gm, cm, curm, rfl, -, hrm, hlm, -, htm, hb5⟩
    obtain ⟨lm, elm⟩ : ∃ lm, (pre ++ vb y).length = lm := ⟨_, rfl⟩
    obtain ⟨nm, enm⟩ : ∃ nm, (vb y).length = nm := ⟨_, rfl⟩
    have HRM : Hid (Row gm (pre ++ vb y) w5) := Lib.hid ⟨curm, hrm, htm⟩
    have HRX5 := Lib.hid (HRX4.out.below hb5 rfl)
    have HRY5 := Lib.hid (HRY.out.below hb5 rfl)
    have HELM := Lib.hid elm
    have HENM := Lib.hid enm
    rw [elm] at hlm ⊢
    rw [enm]
    have HK5 := Lib.hid ((HK4.out.below hb5).mono hb5.size)
    have HB5 := Lib.hid hb5
    clear hrm htm hb5 elm enm
    have hmax : max nx ny = nm := by rw [← HENX.out, ← HENY.out, ← HENM.out]; exact HML.out.symm
    have HMI := Lib.hid hmax
    clear hmax
    go_wp2_with fail
    refine (isWrite_row gx cx x w5.heap.size lx nx v2 pre w5 HK5.out HX.out hlim HRX5.out HELX.out HENX.out hlx).mono ?_
    rintro e w6 ⟨rfl, n6, rfl⟩
    go_wp2_with fail
    refine (isWrite_row gy cy y w5.heap.size ly ny v2 pre (w5.drewN n6) HK5.out HY.out hlim HRY5.out HELY.out HENY.out hly).mono ?_
    rintro e w7 ⟨rfl, n7, rfl⟩
    go_wp2_with fail
    refine (isWrite_row gm cm y w5.heap.size lm nm v2 pre (w5.drewN (n6 + n7)) HK5.out HY.out hlim HRM.out HELM.out HENM.out hlm).mono ?_
    rintro e w8 ⟨rfl, n8, rfl⟩
    have hmi := fun w => maxInt_any nx ny w
    rw [HMI.out] at hmi
    go_wp2_with fail
    refine (hmi _).mono ?_
    rintro e w9 ⟨rfl, rfl⟩
    go_wp2_with fail
    go_ret
    refine ⟨rfl, ?_⟩
    have q2 : w.heap.size ≤ w1.heap.size := HB1.out.size
    have q3 : w.heap.size ≤ w2.heap.size := Nat.le_trans q2 HB2.out.size
    have q4 : w.heap.size ≤ w3.heap.size := Nat.le_trans q3 HB3.out.size
    have q5 : w.heap.size ≤ w4.heap.size := Nat.le_trans q4 HB4.out.size
    exact ((((HB1.out.trans (HB2.out.mono q2)).trans (HB3.out.mono q3)).trans (HB4.out.mono q4)).trans (HB5.out.mono q5)).trans ⟨rfl, rfl, rfl, Nat.le_refl _, fun _ _ => rfl⟩

/-- The law: for every input she returns true, and what lay below stays. -/
theorem law_any (s : Int) (ao : Option Addr) (m c : Nat) (pre : List UInt8) (x y : Nat) (w : World) (hp : BytesAt (.slice ao m c) pre w) (hm : pre.length = m) (hx : x < 18446744073709551616) (hy : y < 18446744073709551616) :
    Calls Tryd.prog 6 #[.int .i64 s, .slice ao m c, .int .u64 x, .int .u64 y] w fun e w' => e = .returned (.bool true) ∧ Below w.heap.size w w' := by
  by_cases h : m ≤ 1048576
  · by_cases hs : s ≤ 65536
    · exact law_main s ao m c pre x y _ w hp hm h hs hx hy rfl _ rfl
    · refine (law_wide s ao m c x y w h (by omega)).mono ?_
      rintro e w' ⟨rfl, rfl⟩
      exact ⟨rfl, Below.refl _ _⟩
  · refine (law_long s ao m c x y w (by omega)).mono ?_
    rintro e w' ⟨rfl, rfl⟩
    exact ⟨rfl, Below.refl _ _⟩
end Go.Proofs.Qxb6608669aDoor
