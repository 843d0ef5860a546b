import Derived.Test.Qxb6616692aV16
namespace Go.Proofs.Qxb6616692a
open Ieee Go.RowKit

/-- A limit in the range is a finite double, its word between those of 1 and 1e12. -/
theorem lim {lw : Nat} (hw : lw < 18446744073709551616) (h1 : (FloatKind.f64.format.order lw 4607182418800017408 == some .gt || FloatKind.f64.format.order lw 4607182418800017408 == some .eq) = true)
    (h2 : (FloatKind.f64.format.order lw 4786511204640096256 == some .lt || FloatKind.f64.format.order lw 4786511204640096256 == some .eq) = true) :
    ∃ L, Is lw L ∧ 1 ≤ L ∧ L ≤ 1000000000000 ∧ 4607182418800017408 ≤ lw ∧ lw ≤ 4786511204640096256 := by
  have i12 : Is 4786511204640096256 1000000000000 := ⟨false, 8192000000000000, -13, by decide, by decide, by decide, by decide +kernel⟩
  have i1 : Is 4607182418800017408 1 := by have := is_cOne; rw [v_one] at this; exact this
  cases hr : double.read lw with
  | nan s f =>
    exfalso
    have : FloatKind.f64.format.order lw 4607182418800017408 = none := by
      show double.order lw 4607182418800017408 = none
      unfold Format.order
      rw [hr]
      rfl
    rw [this] at h1
    cases h1
  | infinity s =>
    exfalso
    cases s
    · have : FloatKind.f64.format.order lw 4786511204640096256 = some .gt := by
        show double.order lw 4786511204640096256 = _
        unfold Format.order
        rw [hr, show double.read 4786511204640096256 = .number false 8192000000000000 (-13) from by decide]
        rfl
      rw [this] at h2
      cases h2
    · have : FloatKind.f64.format.order lw 4607182418800017408 = some .lt := by
        show double.order lw 4607182418800017408 = _
        unfold Format.order
        rw [hr, show double.read 4607182418800017408 = .number false 4503599627370496 (-52) from by decide]
        rfl
      rw [this] at h1
      cases h1
  | number s m e =>
    obtain ⟨a1, a2, a3, a4⟩ := read_inv hw hr
    have hi : Is lw (sg s * ((m:Rat) * 2^e)) := ⟨s, m, e, hr, a2, a3, rfl⟩
    obtain ⟨L, hL⟩ : ∃ L, L = sg s * ((m:Rat) * 2^e) := ⟨_, rfl⟩
    rw [← hL] at hi
    rw [ge_b hi i1] at h1
    rw [le_b hi i12] at h2
    have L1 := of_decide_eq_true h1
    have L2 := of_decide_eq_true h2
    obtain ⟨m', e', hr', hv⟩ := pos_sign hi (by grind)
    rw [hr] at hr'
    cases hr'
    have hlt := Dbl.lt (l0 := e) a2
    have he1 : -52 ≤ e := by
      rcases Int.lt_or_le e (-52) with h | h
      · exfalso
        have k1 := p2_le (show e + 53 ≤ 0 by omega)
        rw [Rat.zpow_zero] at k1
        grind
      · exact h
    have hm : 4503599627370496 ≤ m := by omega
    have hmR : (4503599627370496:Rat) ≤ (m:Rat) := by
      have : ((4503599627370496 : Nat):Rat) ≤ (m:Rat) := by exact_mod_cast hm
      exact this
    have he2 : e ≤ -13 := by
      rcases Int.lt_or_le (-13) e with h | h
      · exfalso
        have k1 := p2_le (show (-12:Int) ≤ e by omega)
        have k2 := mm (show (0:Rat) ≤ 4503599627370496 by decide) hmR (Rat.le_of_lt (p2_pos (-12))) k1
        have k3 : (1000000000000:Rat) < 4503599627370496 * 2^(-12:Int) := by decide +kernel
        grind
      · exact h
    refine ⟨L, hi, L1, L2, ?_, ?_⟩
    · rw [a1]
      simp
      omega
    · rw [a1]
      simp
      rcases Int.lt_or_eq_of_le he2 with h | h
      · omega
      · subst h
        have k1 : (m:Rat) ≤ 8192000000000000 := by
          refine Rat.le_of_mul_le_mul_right (c := 2^(-13:Int)) ?_ (p2_pos _)
          rw [← hv]
          have k3 : (8192000000000000:Rat) * 2^(-13:Int) = 1000000000000 := by decide +kernel
          rw [k3]
          exact L2
        have k2 : m ≤ 8192000000000000 := by
          have : (m:Rat) ≤ ((8192000000000000:Nat):Rat) := k1
          exact_mod_cast this
        omega

/-- What a law leaves. -/
def LwP (w : World) (e : Ending) (w' : World) : Prop := e = .returned (.bool true) ∧ Hid (Below w.heap.size w w')

/-- From the digits to the step. -/
theorem dig_step {lw sw : Nat} {L t : Rat} (hs : Step lw L sw t) (L2 : L ≤ 1000000000000) {k : Nat} (hk : k ≤ 12) (h1 : ((10^k : Nat):Rat) ≤ L) (h2 : L < ((10^(k+1) : Nat):Rat)) : (k:Rat) - 1/10000000000 ≤ t ∧ t ≤ (k:Rat) + 1 + 1/10000000000 ∧ t ≤ 13 := by
  have a := hs.lo k hk h1
  have c := hs.hi 12 (by omega) (by
    have e : ((10^12 : Nat):Rat) = 1000000000000 := by decide +kernel
    rw [e]; exact L2)
  have e12 : ((12:Nat):Rat) = 12 := rfl
  rw [e12] at c
  refine ⟨a, ?_, by grind⟩
  rcases Nat.lt_or_ge k 12 with h | h
  · have b := hs.hi (k+1) (by omega) (Rat.le_of_lt h2)
    push_cast at b
    grind
  · obtain rfl : k = 12 := by omega
    rw [e12]
    grind

end Go.Proofs.Qxb6616692a
