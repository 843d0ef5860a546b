import Derived.WalkKit
import Derived.WalkLawsBesides
import Derived.Laws.FloatArith
namespace Go.Proofs.Qxb6616692a
open Ieee

/-! ### doubles: what a written number reads as -/
theorem d_sign : double.signWeight = 9223372036854775808 := by decide
theorem d_inf : double.infRung = 9218868437227405312 := by decide
theorem d_bin : double.binade = 4503599627370496 := by decide

theorem d_read (neg : Bool) (r : Nat) (h : r ≤ 9218868437227405312) : (double.read (double.word neg r)).isNaN = false := by
  have hm : double.word neg r % double.signWeight = r := by
    unfold Format.word
    rw [d_sign]
    cases neg <;> simp <;> omega
  unfold Format.read
  simp only [hm, d_inf, d_bin]
  split
  · rfl
  split
  · rfl
  split
  · rfl
  · omega

theorem d_nearest (neg : Bool) (mag : Nat) (place : Int) : (double.read (double.nearest neg mag place)).isNaN = false := by
  unfold Format.nearest
  split
  · exact d_read _ _ (by omega)
  · exact d_read _ _ (by rw [d_inf]; exact Nat.min_le_right _ _)

theorem mul_some (x y : Nat) (hx : ∃ s m e, double.read x = .number s m e ∧ m ≠ 0) (hy : (double.read y).isNaN = false) : ∃ r, double.mul x y = some r := by
  obtain ⟨s, m, e, hx, hm⟩ := hx
  unfold Format.mul
  rw [hx]
  cases h : double.read y with
  | number t n j => exact ⟨_, rfl⟩
  | infinity t => simp [Datum.product, hm]
  | nan t q => rw [h] at hy; cases hy

/-- 0.9 times a whole number. -/
def m9 (n : Int) : Nat := (double.mul 4606281698874543309 (floatOfInt .f64 n)).getD 0
theorem m9_eq (n : Int) : floatBits .mul .f64 4606281698874543309 (floatOfInt .f64 n) = some (m9 n) := by
  obtain ⟨r, hr⟩ := mul_some 4606281698874543309 (floatOfInt .f64 n) ⟨false, 8106479329266893, -53, by decide, by decide⟩ (d_nearest _ _ _)
  have h1 : double.mul 4606281698874543309 (floatOfInt .f64 n) = some (m9 n) := by unfold m9; rw [hr]; rfl
  exact h1

theorem m9_run {P : Program} (t : Nat) (n : Int) (w : World) : (binOp .mul t (.float .f64 4606281698874543309) (.float .f64 (floatOfInt .f64 n))).run P w = .ok (.float .f64 (m9 n)) w :=
  run_float_arith w .mul t .f64 _ _ _ (m9_eq n)

/-- The float test of 'observe'. -/
def fge (a b : Nat) : Bool := double.order a b == some .gt || double.order a b == some .eq
def fgt (a b : Nat) : Bool := double.order a b == some .gt
def tst (lat s l : Int) : Bool := fge (floatOfInt .f64 lat) (m9 s) && fgt (m9 s) (floatOfInt .f64 l)

theorem fgt_self (a : Nat) : fgt a a = false := by
  unfold fgt Format.order
  cases h : double.read a with
  | number t n j => simp [Datum.order]
  | infinity t => cases t <;> rfl
  | nan t q => rfl

theorem d_read_inf (neg : Bool) : double.read (double.word neg double.infRung) = .infinity neg := by cases neg <;> decide

/-- 1 / 0. -/
theorem zero_quo (a : Nat) (h : (double.order a 0 == some .eq) = true) : ∃ r, double.div 4607182418800017408 a = some r ∧ (double.order r r == some .eq) = true := by
  have h0 : double.read 0 = .number false 0 (-1074) := by decide
  have h1 : double.read 4607182418800017408 = .number false 4503599627370496 (-52) := by decide
  unfold Format.order at h
  rw [h0] at h
  unfold Format.div
  rw [h1]
  cases ha : double.read a with
  | number t n j =>
    rw [ha] at h
    have hn : n = 0 := by
      simp [Datum.order, signed] at h
      cases t <;> simp_all
    subst hn
    refine ⟨double.write (.infinity (false ^^ t)), by simp [Datum.quotient], ?_⟩
    have hw : double.write (.infinity (false ^^ t)) = double.word (false ^^ t) double.infRung := rfl
    rw [hw]
    unfold Format.order
    rw [d_read_inf]
    cases t <;> rfl
  | infinity t => rw [ha] at h; cases t <;> cases h
  | nan t q => rw [ha] at h; cases h

theorem quo_run {P : Program} (t : Nat) (a r : Nat) (hr : double.div 4607182418800017408 a = some r) (w : World) : (binOp .quo t (.float .f64 4607182418800017408) (.float .f64 a)).run P w = .ok (.float .f64 r) w :=
  run_float_arith w .quo t .f64 _ _ _ hr

end Go.Proofs.Qxb6616692a
